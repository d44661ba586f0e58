import JvmDerived
import JvmDerived.Pilot.@@N@@Statement
import JvmDerived.Pilot.@@N@@Code
set_option linter.unusedVariables false
set_option linter.unusedSimpArgs false
namespace Jvm.Own
open Jvm Jvm.ClassFile Sem Op Lib Jvm.Free Jvm.Stand Jvm.LawKit Jvm.RoadKit Bundle

/-! a calculus of walks, over the library's step laws -/
def Wk (Z : State) (own nm : String) (bytes : ByteArray) (ml : Nat) (ret : Option FieldType) (R : Room) (n0 : Nat) (p : Program) (l : Launch) (e : Env) (s : State) (m : MethodId) (args : Array Value) (below : List Frame) (meth : Method) (c : Code) (T : State) (cells slots : Nat) (h : Heap) : Prop :=
  ∃ locs, Stand p l e R s m args below meth c T locs cells slots ∧ Fr n0 locs ∧ T.heap = h ∧ n0 ≤ s.heap.size ∧ p.tables.exec = Jvm.exec ∧ Z.Warmed39 s.vm ∧ c.code = bytes ∧ c.maxLocals = ml ∧ s.vm.findClass own = some m.cls ∧ meth.name = nm ∧ meth.sig.returnType = ret ∧ meth.locks = false
def Goes (p : Program) (e : Env) (below : List Frame) (s : State) (R : Room) (n0 : Nat) (Q : Option Value → Heap → Prop) (t : State) : Prop :=
  ∃ s₂ o, Steps p.tables e below t s₂ ∧ s₂.status = .running ∧ Ended s₂ below o ∧ ∃ v L, o = .returned v ∧ (Fr n0 L ∧ Q v s₂.heap) ∧ FrameEnd s o s₂ L R.cells R.slots
def Met (l : Launch) (Z : State) (y : MethodName) (bytes : ByteArray) (ml : Nat) (ret : Option FieldType) (R : Room) (ws : List Jvm.Cond) (n0 : Nat) (as : Array Value) (h0 : Heap) (Q : Option Value → Heap → Prop) : Prop :=
  MetFree l y (head1 (Jvm.Cond.code y bytes ml ret :: ws) R) (fun a U => a = as ∧ Z.Warmed39 U.vm ∧ U.heap = h0) (fun _ _ _ _ _ => True) (fun _ U o U' => ∃ v L, o = .returned v ∧ (Fr n0 L ∧ Q v U'.heap) ∧ FrameEnd U o U' L R.cells R.slots)
def bI (c : Prop) [Decidable c] : Int32 := if c then 1 else 0
theorem bI_t {c : Prop} [Decidable c] (h : c) : (1 : Int32) = bI c := (if_pos h).symm
theorem bI_f {c : Prop} [Decidable c] (h : ¬ c) : (0 : Int32) = bI c := (if_neg h).symm
theorem bI_01 (c : Prop) [Decidable c] : bI c = 0 ∨ bI c = 1 := by unfold bI; split <;> simp
theorem bI_eq0 (c : Prop) [Decidable c] : bI c = 0 ↔ ¬ c := by unfold bI; split <;> simp_all
theorem bI_eq1 (c : Prop) [Decidable c] : bI c = 1 ↔ c := by unfold bI; split <;> simp_all
theorem bI_inj (c d : Prop) [Decidable c] [Decidable d] : bI c = bI d ↔ (c ↔ d) := by unfold bI; split <;> split <;> simp_all
theorem bI_cong {c d : Prop} [Decidable c] [Decidable d] (h : c ↔ d) : bI c = bI d := (bI_inj c d).mpr h
def pcI (cd : ClassFile.Cond) (x y : Int32) : Prop := match cd with
  | .lt | .ge => x < y
  | .gt | .le => y < x
  | .eq | .ne => x = y
def pcJ (cd : ClassFile.Cond) (x y : Int64) : Prop := match cd with
  | .lt | .ge => x < y
  | .gt | .le => y < x
  | .eq | .ne => x = y

theorem own_bI01 (c : Prop) [Decidable c] : (c ∧ (bI c).toInt = 1) ∨ (¬ c ∧ (bI c).toInt = 0) := by unfold bI; split <;> simp_all
theorem own_mask' (m x : Int32) (k : Nat) (hk : k ≤ 31) (hm : m.toBitVec.toNat = 2 ^ k - 1) : (m &&& x).toInt = x.toInt % (2 ^ k : Nat) := by rw [Int32.and_comm]; exact c_mask x m k hk hm
theorem own_maskL' (m x : Int64) (k : Nat) (hk : k ≤ 63) (hm : m.toBitVec.toNat = 2 ^ k - 1) : (m &&& x).toInt = x.toInt % (2 ^ k : Nat) := by rw [Int64.and_comm]; exact c_maskL x m k hk hm
theorem own_mB (x m : Int32) (k : Nat) (hk : k ≤ 31) (hm : m.toBitVec.toNat = 2 ^ k - 1) (M : Nat) (hM : M + 1 = 2 ^ k) : 0 ≤ (x &&& m).toInt ∧ (x &&& m).toInt ≤ M := by
  rw [c_mask x m k hk hm, ← hM]; have a := Int.emod_nonneg x.toInt (b := ((M + 1 : Nat) : Int)) (by omega); have b := Int.emod_lt_of_pos x.toInt (b := ((M + 1 : Nat) : Int)) (by omega); omega
theorem own_mBL (x m : Int64) (k : Nat) (hk : k ≤ 63) (hm : m.toBitVec.toNat = 2 ^ k - 1) (M : Nat) (hM : M + 1 = 2 ^ k) : 0 ≤ (x &&& m).toInt ∧ (x &&& m).toInt ≤ M := by
  rw [c_maskL x m k hk hm, ← hM]; have a := Int.emod_nonneg x.toInt (b := ((M + 1 : Nat) : Int)) (by omega); have b := Int.emod_lt_of_pos x.toInt (b := ((M + 1 : Nat) : Int)) (by omega); omega
theorem own_mB' (m x : Int32) (k : Nat) (hk : k ≤ 31) (hm : m.toBitVec.toNat = 2 ^ k - 1) (M : Nat) (hM : M + 1 = 2 ^ k) : 0 ≤ (m &&& x).toInt ∧ (m &&& x).toInt ≤ M := by rw [Int32.and_comm]; exact own_mB x m k hk hm M hM
theorem own_mBL' (m x : Int64) (k : Nat) (hk : k ≤ 63) (hm : m.toBitVec.toNat = 2 ^ k - 1) (M : Nat) (hM : M + 1 = 2 ^ k) : 0 ≤ (m &&& x).toInt ∧ (m &&& x).toInt ≤ M := by rw [Int64.and_comm]; exact own_mBL x m k hk hm M hM
theorem own_iaddE (x y : Int32) (h : -2147483648 ≤ x.toInt + y.toInt ∧ x.toInt + y.toInt < 2147483648) : (x + y).toInt = x.toInt + y.toInt := by
  have a := c_iadd x y; have b := rng32 (x + y); omega
theorem own_isubE (x y : Int32) (h : -2147483648 ≤ x.toInt - y.toInt ∧ x.toInt - y.toInt < 2147483648) : (x - y).toInt = x.toInt - y.toInt := by
  have a := c_isub x y; have b := rng32 (x - y); omega
theorem own_imulE (x y : Int32) (h : -2147483648 ≤ x.toInt * y.toInt ∧ x.toInt * y.toInt < 2147483648) : (x * y).toInt = x.toInt * y.toInt := by
  have a := c_imul x y; have b := rng32 (x * y); omega
theorem own_inegE (x : Int32) (h : -2147483648 ≤ -x.toInt ∧ -x.toInt < 2147483648) : (-x).toInt = -x.toInt := by
  have a := c_ineg x; have b := rng32 (-x); omega
theorem own_laddE (x y : Int64) (h : -9223372036854775808 ≤ x.toInt + y.toInt ∧ x.toInt + y.toInt < 9223372036854775808) : (x + y).toInt = x.toInt + y.toInt := by
  have a := c_ladd x y; have b := rng64 (x + y); omega
theorem own_lsubE (x y : Int64) (h : -9223372036854775808 ≤ x.toInt - y.toInt ∧ x.toInt - y.toInt < 9223372036854775808) : (x - y).toInt = x.toInt - y.toInt := by
  have a := c_lsub x y; have b := rng64 (x - y); omega
theorem own_lmulE (x y : Int64) (h : -9223372036854775808 ≤ x.toInt * y.toInt ∧ x.toInt * y.toInt < 9223372036854775808) : (x * y).toInt = x.toInt * y.toInt := by
  have a := c_lmul x y; have b := rng64 (x * y); omega
theorem own_lnegE (x : Int64) (h : -9223372036854775808 ≤ -x.toInt ∧ -x.toInt < 9223372036854775808) : (-x).toInt = -x.toInt := by
  have a := c_lneg x; have b := rng64 (-x); omega
theorem own_l2iE (x : Int64) (h : -2147483648 ≤ x.toInt ∧ x.toInt < 2147483648) : x.toInt32.toInt = x.toInt := by
  have a := c_l2i x; have b := rng32 x.toInt32; omega
theorem own_ushB (x q : Int32) (k : Nat) (hk : q.toBitVec.toNat % 32 = k) (h0 : 0 < k) (M : Nat) (hM : M * 2 ^ k = 4294967296) : 0 ≤ ((x.toUInt32 >>> (q &&& 31).toUInt32).toInt32).toInt ∧ ((x.toUInt32 >>> (q &&& 31).toUInt32).toInt32).toInt < M := by
  rw [c_iushr x q k hk h0]
  have h2 : (0 : Int) < ((2 ^ k : Nat) : Int) := Int.natCast_pos.mpr (Nat.pow_pos (by decide))
  refine ⟨Int.ediv_nonneg (by omega) (Int.le_of_lt h2), Int.ediv_lt_of_lt_mul h2 ?_⟩
  have q : ((M : Int)) * ((2 ^ k : Nat) : Int) = 4294967296 := by rw [← Int.natCast_mul, hM]; rfl
  omega
theorem own_irem (x y : Int32) (d : Int) (hy : y.toInt = d) : (0 ≤ x.toInt → (x % y).toInt = x.toInt % d) ∧ (x.toInt < 0 → (x % y).toInt = -((-x.toInt) % d)) := c_irem x y d hy
theorem own_lrem (x y : Int64) (d : Int) (hy : y.toInt = d) : (0 ≤ x.toInt → (x % y).toInt = x.toInt % d) ∧ (x.toInt < 0 → (x % y).toInt = -((-x.toInt) % d)) := by rw [← lrem_mod]; exact c_lrem x y d hy
theorem own_iremV (x y : Int32) : (0 ≤ x.toInt → 0 < y.toInt → 0 ≤ (x % y).toInt ∧ (x % y).toInt < y.toInt ∧ (x % y).toInt ≤ x.toInt) := fun h1 h2 => ⟨((c_iremV x y).1 h1 h2).1, ((c_iremV x y).1 h1 h2).2.1, ((c_iremV x y).1 h1 h2).2.2.1⟩
theorem own_emod_le {a b : Int} (h1 : 0 ≤ a) (h2 : 0 < b) : a % b ≤ a := by
  have q := Int.emod_add_mul_ediv a b; have z : 0 ≤ b * (a / b) := Int.mul_nonneg (Int.le_of_lt h2) (Int.ediv_nonneg h1 (Int.le_of_lt h2)); omega
theorem own_lremV (x y : Int64) : (0 ≤ x.toInt → 0 < y.toInt → 0 ≤ (x % y).toInt ∧ (x % y).toInt < y.toInt ∧ (x % y).toInt ≤ x.toInt) := fun h1 h2 => by
  rw [Int64.toInt_mod, Int.tmod_eq_emod_of_nonneg h1]
  exact ⟨Int.emod_nonneg _ (by omega), Int.emod_lt_of_pos _ h2, own_emod_le h1 h2⟩
theorem own_iremP (x y : Int32) (d : Int) (hy : y.toInt = d) (h0 : 0 ≤ x.toInt) : (x % y).toInt = x.toInt % d := (own_irem x y d hy).1 h0
theorem own_iremB (x y : Int32) (d : Int) (hy : y.toInt = d) (hd : 0 < d) (h0 : 0 ≤ x.toInt) : 0 ≤ (x % y).toInt ∧ (x % y).toInt < d ∧ (x % y).toInt ≤ x.toInt := by
  rw [own_iremP x y d hy h0]; exact ⟨Int.emod_nonneg _ (by omega), Int.emod_lt_of_pos _ hd, own_emod_le h0 hd⟩
theorem own_iremM (x y : Int32) (d : Int) (hy : y.toInt = d) (hd : 0 < d) : -d < (x % y).toInt ∧ (x % y).toInt < d := by
  rcases Int.lt_or_le x.toInt 0 with h | h
  · rw [(own_irem x y d hy).2 h]; have a := Int.emod_nonneg (-x.toInt) (b := d) (by omega); have b := Int.emod_lt_of_pos (-x.toInt) hd; omega
  · have q := own_iremB x y d hy hd h; omega
theorem own_lremP (x y : Int64) (d : Int) (hy : y.toInt = d) (h0 : 0 ≤ x.toInt) : (x % y).toInt = x.toInt % d := (own_lrem x y d hy).1 h0
theorem own_lremB (x y : Int64) (d : Int) (hy : y.toInt = d) (hd : 0 < d) (h0 : 0 ≤ x.toInt) : 0 ≤ (x % y).toInt ∧ (x % y).toInt < d ∧ (x % y).toInt ≤ x.toInt := by
  rw [own_lremP x y d hy h0]; exact ⟨Int.emod_nonneg _ (by omega), Int.emod_lt_of_pos _ hd, own_emod_le h0 hd⟩
theorem own_lremM (x y : Int64) (d : Int) (hy : y.toInt = d) (hd : 0 < d) : -d < (x % y).toInt ∧ (x % y).toInt < d := by
  rcases Int.lt_or_le x.toInt 0 with h | h
  · rw [(own_lrem x y d hy).2 h]; have a := Int.emod_nonneg (-x.toInt) (b := d) (by omega); have b := Int.emod_lt_of_pos (-x.toInt) hd; omega
  · have q := own_lremB x y d hy hd h; omega
theorem own_bor (A B : Prop) [Decidable A] [Decidable B] : bI A ||| bI B = bI (A ∨ B) := by unfold bI; by_cases a : A <;> by_cases b : B <;> simp [a, b] <;> decide
theorem own_band (A B : Prop) [Decidable A] [Decidable B] : bI A &&& bI B = bI (A ∧ B) := by unfold bI; by_cases a : A <;> by_cases b : B <;> simp [a, b] <;> decide
def Apart (a b : Addr) : Prop := a ≠ b
theorem own_apS {a b : Addr} (h : Apart a b) : Apart b a := Ne.symm h
theorem own_new {h : Heap} {a b : Addr} (hb : b = h.size) (ha : a < h.size) : Apart a b := by subst hb; exact Nat.ne_of_lt ha
theorem own_sz {h0 h : Heap} {b : Addr} {ws : List Addr} (hb : b = h.size) (K : Keep h0 h ws) : h0.size ≤ b := by subst hb; exact K.1
theorem own_far {h : Heap} {a b : Addr} (ha : a < h.size) (hb : h.size ≤ b) : Apart a b := Nat.ne_of_lt (Nat.lt_of_lt_of_le ha hb)
theorem own_narZ {z : Int32} (hz : z = 0 ∨ z = 1) : narrow .boolean (.int z) = .int z := by rcases hz with rfl | rfl <;> rfl
theorem own_fitZ {z : Int32} (hz : z = 0 ∨ z = 1) : fits .boolean (.int z) = true := by rcases hz with rfl | rfl <;> rfl
theorem own_narZ' {z : Int32} (hz : z = 0 ∨ z = 1) : nar .boolean z = z := by rcases hz with rfl | rfl <;> rfl
theorem own_fin {c : Prop} [Decidable c] (h : c) : (some (Value.int (bI c))) = some (Value.int 1) := by rw [← bI_t h]
def own_up {α : Type} (f : Nat → α) (i : Nat) (x : α) : Nat → α := fun k => if k = i then x else f k
def AI (Z : State) (h : Heap) (a : Addr) (ty : FieldType) (n : Nat) (f : Nat → Int32) : Prop := n < 2 ^ 31 ∧ ∃ c : Cell, Arr Z h a c ty ∧ c.slots.size = n ∧ ∀ j, j < n → c.slots[j]? = some (.int (f j))
def AJ (Z : State) (h : Heap) (a : Addr) (n : Nat) (f : Nat → Int64) : Prop := n < 2 ^ 31 ∧ ∃ c : Cell, Arr Z h a c .long ∧ c.slots.size = n ∧ ∀ j, j < n → c.slots[j]? = some (.long (f j))
theorem AI.lt {Z : State} {h : Heap} {a : Addr} {ty : FieldType} {n : Nat} {f : Nat → Int32} (A : AI Z h a ty n f) : a < h.size := by obtain ⟨_, c, A, _⟩ := A; exact A.lt
theorem AI.ext {Z : State} {h h' : Heap} {a : Addr} {ty : FieldType} {n : Nat} {f : Nat → Int32} (A : AI Z h a ty n f) (E : Ext h h') : AI Z h' a ty n f := by obtain ⟨q, c, A, r⟩ := A; exact ⟨q, c, A.ext E, r⟩
theorem AI.keep {Z : State} {h h' : Heap} {a : Addr} {ws : List Addr} {ty : FieldType} {n : Nat} {f : Nat → Int32} (A : AI Z h a ty n f) (K : Keep h h' ws) (q : a ∉ ws) : AI Z h' a ty n f := by obtain ⟨z, c, A, r⟩ := A; exact ⟨z, c, ⟨K.2.1 a c A.1 q, A.2⟩, r⟩
theorem AI.other {Z : State} {h h' : Heap} {a b : Addr} {sl : Nat} {w : Value} {ty : FieldType} {n : Nat} {f : Nat → Int32} (A : AI Z h a ty n f) (W : Wr h h' b sl w) (q : a ≠ b) : AI Z h' a ty n f := by obtain ⟨z, c, A, r⟩ := A; exact ⟨z, c, A.other W q, r⟩
theorem AI.set {Z : State} {h h' : Heap} {a : Addr} {i : Nat} {x : Int32} {ty : FieldType} {n : Nat} {f : Nat → Int32} (A : AI Z h a ty n f) (W : Wr h h' a i (.int x)) : AI Z h' a ty n (own_up f i x) := by
  obtain ⟨z, c, A, r1, r2⟩ := A
  refine ⟨z, _, A.same W, by rw [sz_set]; exact r1, fun j hj => ?_⟩
  by_cases q : j = i
  · subst q; simp [Cell.setSlot, own_up, r1, hj]
  · simp only [Cell.setSlot, own_up, if_neg q]; rw [Array.getElem?_setIfInBounds_ne (Ne.symm q)]; exact r2 j hj
theorem AI.to {Z : State} {h : Heap} {a : Addr} {ty : FieldType} {n : Nat} {f g : Nat → Int32} (A : AI Z h a ty n f) (q : ∀ j, j < n → f j = g j) : AI Z h a ty n g := by obtain ⟨z, c, A, r1, r2⟩ := A; exact ⟨z, c, A, r1, fun j hj => by rw [← q j hj]; exact r2 j hj⟩
theorem AJ.lt {Z : State} {h : Heap} {a : Addr} {n : Nat} {f : Nat → Int64} (A : AJ Z h a n f) : a < h.size := by obtain ⟨_, c, A, _⟩ := A; exact A.lt
theorem AJ.ext {Z : State} {h h' : Heap} {a : Addr} {n : Nat} {f : Nat → Int64} (A : AJ Z h a n f) (E : Ext h h') : AJ Z h' a n f := by obtain ⟨q, c, A, r⟩ := A; exact ⟨q, c, A.ext E, r⟩
theorem AJ.keep {Z : State} {h h' : Heap} {a : Addr} {ws : List Addr} {n : Nat} {f : Nat → Int64} (A : AJ Z h a n f) (K : Keep h h' ws) (q : a ∉ ws) : AJ Z h' a n f := by obtain ⟨z, c, A, r⟩ := A; exact ⟨z, c, ⟨K.2.1 a c A.1 q, A.2⟩, r⟩
theorem AJ.other {Z : State} {h h' : Heap} {a b : Addr} {sl : Nat} {w : Value} {n : Nat} {f : Nat → Int64} (A : AJ Z h a n f) (W : Wr h h' b sl w) (q : a ≠ b) : AJ Z h' a n f := by obtain ⟨z, c, A, r⟩ := A; exact ⟨z, c, A.other W q, r⟩
theorem AJ.set {Z : State} {h h' : Heap} {a : Addr} {i : Nat} {x : Int64} {n : Nat} {f : Nat → Int64} (A : AJ Z h a n f) (W : Wr h h' a i (.long x)) : AJ Z h' a n (own_up f i x) := by
  obtain ⟨z, c, A, r1, r2⟩ := A
  refine ⟨z, _, A.same W, by rw [sz_set]; exact r1, fun j hj => ?_⟩
  by_cases q : j = i
  · subst q; simp [Cell.setSlot, own_up, r1, hj]
  · simp only [Cell.setSlot, own_up, if_neg q]; rw [Array.getElem?_setIfInBounds_ne (Ne.symm q)]; exact r2 j hj
theorem AJ.to {Z : State} {h : Heap} {a : Addr} {n : Nat} {f g : Nat → Int64} (A : AJ Z h a n f) (q : ∀ j, j < n → f j = g j) : AJ Z h a n g := by obtain ⟨z, c, A, r1, r2⟩ := A; exact ⟨z, c, A, r1, fun j hj => by rw [← q j hj]; exact r2 j hj⟩
theorem own_ix {j : Int32} {n k : Nat} (hk : k = n) (q : 0 ≤ j.toInt ∧ j.toInt < n) : ¬ (j < 0 ∨ k ≤ j.toNatClampNeg) := by
  simp only [Int32.lt_iff_toInt_lt, Int32.toNatClampNeg, Int32.reduceToInt]; omega
theorem own_ixn {j : Int32} {n : Nat} (q : 0 ≤ j.toInt ∧ j.toInt < n) : j.toNatClampNeg < n := by simp only [Int32.toNatClampNeg]; omega
section Walk
variable {Z : State} {a0 : Array Value} {own nm : String} {bytes : ByteArray} {ml : Nat} {ret : Option FieldType} {R : Room} {n0 : Nat} {p : Program} {l : Launch} {e : Env} {s : State} {m : MethodId} {args : Array Value} {below : List Frame} {meth : Method} {c : Code} {T : State} {cells slots : Nat} {h : Heap} {Q : Option Value → Heap → Prop}
theorem Met.intro {y : MethodName} {as : Array Value} {h0 : Heap} {ws : List Jvm.Cond} (hp : plainFor y = true) (hn : n0 ≤ h0.size)
    (body : ∀ p e s m below meth c T, Wk Z y.cls y.name bytes ml ret R n0 p l e s m as below meth c T 0 0 h0 → Goes p e below s R n0 Q (T.setTop (entryFrame m as ml))) : Met l Z y bytes ml ret R ws n0 as h0 Q := by
  refine MetFree.of_bodySF hp hisR ?_
  intro p e s m args below meth c s₁ Bd hml0 hP hK
  obtain ⟨rfl, hZ, hh⟩ := hP
  have e0 : s₁.heap = h0 := by rw [← hh, Bd.state]; rfl
  exact body p e s m below meth c s₁ ⟨[], Stand.of_body Bd, Fr.nil n0, e0, by rw [hh]; exact hn, Bd.exec, hZ, Bd.bytes, hml0, findClass_of_methodNamed Bd.named, (name_of_methodNamed Bd.named Bd.method).1, Bd.returns, Bd.notSynchronized⟩
theorem g_of {A B : State} (hs : ∀ t, Steps p.tables e below A t → Steps p.tables e below B t) (k : Goes p e below s R n0 Q A) : Goes p e below s R n0 Q B := by
  obtain ⟨s2, o, h1, h2⟩ := k
  exact ⟨s2, o, hs _ h1, h2⟩
theorem g_cast {g g' : JFrame} (q : g = g') (k : Goes p e below s R n0 Q (T.setTop g')) : Goes p e below s R n0 Q (T.setTop g) := q ▸ k
theorem g_eqI {pc : Nat} {Ls : Array Slot} {x y : Int32} {rest : List Value} (q : x = y) (k : Goes p e below s R n0 Q (T.setTop (mkF m pc Ls (.int y :: rest)))) : Goes p e below s R n0 Q (T.setTop (mkF m pc Ls (.int x :: rest))) := q ▸ k
theorem g_eqJ {pc : Nat} {Ls : Array Slot} {x y : Int64} {rest : List Value} (q : x = y) (k : Goes p e below s R n0 Q (T.setTop (mkF m pc Ls (.long y :: rest)))) : Goes p e below s R n0 Q (T.setTop (mkF m pc Ls (.long x :: rest))) := q ▸ k
theorem g_letJ {pc : Nat} {Ls : Array Slot} {x : Int64} {rest : List Value} (k : ∀ y, y = x → Goes p e below s R n0 Q (T.setTop (mkF m pc Ls (.long y :: rest)))) : Goes p e below s R n0 Q (T.setTop (mkF m pc Ls (.long x :: rest))) := k x rfl
theorem g_letI {pc : Nat} {Ls : Array Slot} {x : Int32} {rest : List Value} (k : ∀ y, y = x → Goes p e below s R n0 Q (T.setTop (mkF m pc Ls (.int y :: rest)))) : Goes p e below s R n0 Q (T.setTop (mkF m pc Ls (.int x :: rest))) := k x rfl
theorem Wk.size (X : Wk Z own nm bytes ml ret R n0 p l e s m args below meth c T cells slots h) : n0 ≤ h.size := by
  obtain ⟨locs, X, N, eh, hn, hx, hZ, hby, hml, hown, hnm, hret, hlk⟩ := X
  have q : s.heap.size ≤ T.heap.size := X.same.2.1
  rw [eh] at q
  exact Nat.le_trans hn q
theorem Wk.mono (X : Wk Z own nm bytes ml ret R n0 p l e s m args below meth c T cells slots h) {cells' slots' : Nat} (hc : cells ≤ cells') (hs : slots ≤ slots') : Wk Z own nm bytes ml ret R n0 p l e s m args below meth c T cells' slots' h := by
  obtain ⟨locs, X, N, eh, hn, hx, hZ, hby, hml, hown, hnm, hret, hlk⟩ := X
  exact ⟨locs, X.mono hc hs, N, eh, hn, hx, hZ, hby, hml, hown, hnm, hret, hlk⟩
theorem g_out (X : Wk Z own nm bytes ml ret R n0 p l e s m args below meth c T cells slots h) {g : JFrame} {v : Option Value} (hv : ret = none → v = none) (hc : cells ≤ R.cells) (hs : slots ≤ R.slots)
    (st : ∀ locs, Stand p l e R s m args below meth c T locs cells slots → p.tables.exec = Jvm.exec → meth.sig.returnType = ret → c.code = bytes → ∀ fs, (∀ (f : JFrame) (acts : List Action), f.method = m → f.locked = none → f.entered = [] → (doReturn e (T.setTop f) acts v).1 = T.setFrames fs) → Steps p.tables e below (T.setTop g) (T.setFrames fs))
    (hQ : Q v h) : Goes p e below s R n0 Q (T.setTop g) := by
  obtain ⟨locs, X, N, eh, hn, hx, hZ, hby, hml, hown, hnm, hret, hlk⟩ := X
  obtain ⟨fs, hr, hrun, hended, hW, hsame⟩ := X.leave (v := v) (fun q => hv (hret ▸ q)) hlk
  exact ⟨_, _, st _ X hx hret hby fs hr, hrun, hended, _, _, rfl, ⟨N, by rw [show (T.setFrames fs).heap = T.heap from rfl, eh]; exact hQ⟩, ⟨_, rfl⟩, hW, hsame.mono hc hs⟩
theorem g_retI (X : Wk Z own nm bytes ml (some .int) R n0 p l e s m args below meth c T cells slots h) {pc : Nat} {Ls : Array Slot} {z : Int32} {rest : List Value} (hd : decode bytes pc = .ok (.ireturn, 1)) (hc : cells ≤ R.cells) (hs : slots ≤ R.slots) (hQ : Q (some (.int z)) h) : Goes p e below s R n0 Q (T.setTop (mkF m pc Ls (.int z :: rest))) :=
  g_out X nofun hc hs (fun _ Y hx hr hb fs hl => retOut Y hx hr rfl (Or.inl ⟨rfl, Or.inl rfl, _, rfl⟩) (hb ▸ hd) hl) hQ
theorem g_retZ (X : Wk Z own nm bytes ml (some .boolean) R n0 p l e s m args below meth c T cells slots h) {pc : Nat} {Ls : Array Slot} {z : Int32} {rest : List Value} (hd : decode bytes pc = .ok (.ireturn, 1)) (hc : cells ≤ R.cells) (hs : slots ≤ R.slots) (hz : z = 0 ∨ z = 1) (hQ : Q (some (.int z)) h) : Goes p e below s R n0 Q (T.setTop (mkF m pc Ls (.int z :: rest))) :=
  g_out X nofun hc hs (fun _ Y hx hr hb fs hl => retOut Y hx hr (by rcases hz with rfl | rfl <;> rfl) (Or.inl ⟨rfl, Or.inr (Or.inl rfl), _, rfl⟩) (hb ▸ hd) hl) hQ
theorem g_retJ (X : Wk Z own nm bytes ml (some .long) R n0 p l e s m args below meth c T cells slots h) {pc : Nat} {Ls : Array Slot} {z : Int64} {rest : List Value} (hd : decode bytes pc = .ok (.lreturn, 1)) (hc : cells ≤ R.cells) (hs : slots ≤ R.slots) (hQ : Q (some (.long z)) h) : Goes p e below s R n0 Q (T.setTop (mkF m pc Ls (.long z :: rest))) :=
  g_out X nofun hc hs (fun _ Y hx hr hb fs hl => retOut Y hx hr rfl (Or.inr (Or.inl ⟨rfl, rfl, _, rfl⟩)) (hb ▸ hd) hl) hQ
theorem g_retA {t : FieldType} (X : Wk Z own nm bytes ml (some t) R n0 p l e s m args below meth c T cells slots h) (ht : t.isReference = true) {pc : Nat} {Ls : Array Slot} {w : Value} (hw : w.isRef = true) {rest : List Value} (hd : decode bytes pc = .ok (.areturn, 1)) (hc : cells ≤ R.cells) (hs : slots ≤ R.slots) (hQ : Q (some w) h) : Goes p e below s R n0 Q (T.setTop (mkF m pc Ls (w :: rest))) :=
  g_out X nofun hc hs (fun _ Y hx hr hb fs hl => retOut Y hx hr (by cases t <;> simp_all [narrow, FieldType.isReference]) (Or.inr (Or.inr (Or.inr (Or.inr ⟨rfl, ht, hw⟩)))) (hb ▸ hd) hl) hQ
theorem g_ret0 (X : Wk Z own nm bytes ml none R n0 p l e s m args below meth c T cells slots h) {pc : Nat} {Ls : Array Slot} (hd : decode bytes pc = .ok (.return_, 1)) (hc : cells ≤ R.cells) (hs : slots ≤ R.slots) (hQ : Q none h) : Goes p e below s R n0 Q (T.setTop (mkF m pc Ls [])) :=
  g_out X (fun _ => rfl) hc hs (fun _ Y hx hr hb fs hl => Y.returnOut hx hr (hb ▸ hd) hl) hQ
theorem g_lcmp (X : Wk Z own nm bytes ml ret R n0 p l e s m args below meth c T cells slots h) {pc q : Nat} {Ls : Array Slot} {rest : List Value} {x y : Int64} (hd : decode bytes pc = .ok (.lcmp, 1)) (hq : pc + 1 = q) (k : Goes p e below s R n0 Q (T.setTop (mkF m q Ls (.int (lcmpW x y) :: rest)))) : Goes p e below s R n0 Q (T.setTop (mkF m pc Ls (.long y :: .long x :: rest))) := by
  obtain ⟨locs, X, N, eh, hn, hx, hZ, hby, hml, hown, hnm, hret, hlk⟩ := X
  subst hby hq
  exact g_of (fun t r => XS.lcmp X.here hx rfl hd rfl r) k
theorem g_iadd (X : Wk Z own nm bytes ml ret R n0 p l e s m args below meth c T cells slots h) {pc q : Nat} {Ls : Array Slot} {rest : List Value} {x y : Int32} (hd : decode bytes pc = .ok (.iadd, 1)) (hq : pc + 1 = q) (k : Goes p e below s R n0 Q (T.setTop (mkF m q Ls (.int (x + y) :: rest)))) : Goes p e below s R n0 Q (T.setTop (mkF m pc Ls (.int y :: .int x :: rest))) := by
  obtain ⟨locs, X, N, eh, hn, hx, hZ, hby, hml, hown, hnm, hret, hlk⟩ := X
  subst hby hq
  exact g_of (fun t r => XS.iadd X.here hx rfl hd rfl r) k
theorem g_isub (X : Wk Z own nm bytes ml ret R n0 p l e s m args below meth c T cells slots h) {pc q : Nat} {Ls : Array Slot} {rest : List Value} {x y : Int32} (hd : decode bytes pc = .ok (.isub, 1)) (hq : pc + 1 = q) (k : Goes p e below s R n0 Q (T.setTop (mkF m q Ls (.int (x - y) :: rest)))) : Goes p e below s R n0 Q (T.setTop (mkF m pc Ls (.int y :: .int x :: rest))) := by
  obtain ⟨locs, X, N, eh, hn, hx, hZ, hby, hml, hown, hnm, hret, hlk⟩ := X
  subst hby hq
  exact g_of (fun t r => XS.isub X.here hx rfl hd rfl r) k
theorem g_imul (X : Wk Z own nm bytes ml ret R n0 p l e s m args below meth c T cells slots h) {pc q : Nat} {Ls : Array Slot} {rest : List Value} {x y : Int32} (hd : decode bytes pc = .ok (.imul, 1)) (hq : pc + 1 = q) (k : Goes p e below s R n0 Q (T.setTop (mkF m q Ls (.int (x * y) :: rest)))) : Goes p e below s R n0 Q (T.setTop (mkF m pc Ls (.int y :: .int x :: rest))) := by
  obtain ⟨locs, X, N, eh, hn, hx, hZ, hby, hml, hown, hnm, hret, hlk⟩ := X
  subst hby hq
  exact g_of (fun t r => XS.imul X.here hx rfl hd rfl r) k
theorem g_iand (X : Wk Z own nm bytes ml ret R n0 p l e s m args below meth c T cells slots h) {pc q : Nat} {Ls : Array Slot} {rest : List Value} {x y : Int32} (hd : decode bytes pc = .ok (.iand, 1)) (hq : pc + 1 = q) (k : Goes p e below s R n0 Q (T.setTop (mkF m q Ls (.int (x &&& y) :: rest)))) : Goes p e below s R n0 Q (T.setTop (mkF m pc Ls (.int y :: .int x :: rest))) := by
  obtain ⟨locs, X, N, eh, hn, hx, hZ, hby, hml, hown, hnm, hret, hlk⟩ := X
  subst hby hq
  exact g_of (fun t r => XS.iand X.here hx rfl hd rfl r) k
theorem g_ior (X : Wk Z own nm bytes ml ret R n0 p l e s m args below meth c T cells slots h) {pc q : Nat} {Ls : Array Slot} {rest : List Value} {x y : Int32} (hd : decode bytes pc = .ok (.ior, 1)) (hq : pc + 1 = q) (k : Goes p e below s R n0 Q (T.setTop (mkF m q Ls (.int (x ||| y) :: rest)))) : Goes p e below s R n0 Q (T.setTop (mkF m pc Ls (.int y :: .int x :: rest))) := by
  obtain ⟨locs, X, N, eh, hn, hx, hZ, hby, hml, hown, hnm, hret, hlk⟩ := X
  subst hby hq
  exact g_of (fun t r => XS.ior X.here hx rfl hd rfl r) k
theorem g_ixor (X : Wk Z own nm bytes ml ret R n0 p l e s m args below meth c T cells slots h) {pc q : Nat} {Ls : Array Slot} {rest : List Value} {x y : Int32} (hd : decode bytes pc = .ok (.ixor, 1)) (hq : pc + 1 = q) (k : Goes p e below s R n0 Q (T.setTop (mkF m q Ls (.int (x ^^^ y) :: rest)))) : Goes p e below s R n0 Q (T.setTop (mkF m pc Ls (.int y :: .int x :: rest))) := by
  obtain ⟨locs, X, N, eh, hn, hx, hZ, hby, hml, hown, hnm, hret, hlk⟩ := X
  subst hby hq
  exact g_of (fun t r => XS.ixor X.here hx rfl hd rfl r) k
theorem g_ladd (X : Wk Z own nm bytes ml ret R n0 p l e s m args below meth c T cells slots h) {pc q : Nat} {Ls : Array Slot} {rest : List Value} {x y : Int64} (hd : decode bytes pc = .ok (.ladd, 1)) (hq : pc + 1 = q) (k : Goes p e below s R n0 Q (T.setTop (mkF m q Ls (.long (x + y) :: rest)))) : Goes p e below s R n0 Q (T.setTop (mkF m pc Ls (.long y :: .long x :: rest))) := by
  obtain ⟨locs, X, N, eh, hn, hx, hZ, hby, hml, hown, hnm, hret, hlk⟩ := X
  subst hby hq
  exact g_of (fun t r => XS.ladd X.here hx rfl hd rfl r) k
theorem g_lsub (X : Wk Z own nm bytes ml ret R n0 p l e s m args below meth c T cells slots h) {pc q : Nat} {Ls : Array Slot} {rest : List Value} {x y : Int64} (hd : decode bytes pc = .ok (.lsub, 1)) (hq : pc + 1 = q) (k : Goes p e below s R n0 Q (T.setTop (mkF m q Ls (.long (x - y) :: rest)))) : Goes p e below s R n0 Q (T.setTop (mkF m pc Ls (.long y :: .long x :: rest))) := by
  obtain ⟨locs, X, N, eh, hn, hx, hZ, hby, hml, hown, hnm, hret, hlk⟩ := X
  subst hby hq
  exact g_of (fun t r => XS.lsub X.here hx rfl hd rfl r) k
theorem g_lmul (X : Wk Z own nm bytes ml ret R n0 p l e s m args below meth c T cells slots h) {pc q : Nat} {Ls : Array Slot} {rest : List Value} {x y : Int64} (hd : decode bytes pc = .ok (.lmul, 1)) (hq : pc + 1 = q) (k : Goes p e below s R n0 Q (T.setTop (mkF m q Ls (.long (x * y) :: rest)))) : Goes p e below s R n0 Q (T.setTop (mkF m pc Ls (.long y :: .long x :: rest))) := by
  obtain ⟨locs, X, N, eh, hn, hx, hZ, hby, hml, hown, hnm, hret, hlk⟩ := X
  subst hby hq
  exact g_of (fun t r => XS.lmul X.here hx rfl hd rfl r) k
theorem g_land (X : Wk Z own nm bytes ml ret R n0 p l e s m args below meth c T cells slots h) {pc q : Nat} {Ls : Array Slot} {rest : List Value} {x y : Int64} (hd : decode bytes pc = .ok (.land, 1)) (hq : pc + 1 = q) (k : Goes p e below s R n0 Q (T.setTop (mkF m q Ls (.long (x &&& y) :: rest)))) : Goes p e below s R n0 Q (T.setTop (mkF m pc Ls (.long y :: .long x :: rest))) := by
  obtain ⟨locs, X, N, eh, hn, hx, hZ, hby, hml, hown, hnm, hret, hlk⟩ := X
  subst hby hq
  exact g_of (fun t r => XS.land X.here hx rfl hd rfl r) k
theorem g_lor (X : Wk Z own nm bytes ml ret R n0 p l e s m args below meth c T cells slots h) {pc q : Nat} {Ls : Array Slot} {rest : List Value} {x y : Int64} (hd : decode bytes pc = .ok (.lor, 1)) (hq : pc + 1 = q) (k : Goes p e below s R n0 Q (T.setTop (mkF m q Ls (.long (x ||| y) :: rest)))) : Goes p e below s R n0 Q (T.setTop (mkF m pc Ls (.long y :: .long x :: rest))) := by
  obtain ⟨locs, X, N, eh, hn, hx, hZ, hby, hml, hown, hnm, hret, hlk⟩ := X
  subst hby hq
  exact g_of (fun t r => XS.lor X.here hx rfl hd rfl r) k
theorem g_lxor (X : Wk Z own nm bytes ml ret R n0 p l e s m args below meth c T cells slots h) {pc q : Nat} {Ls : Array Slot} {rest : List Value} {x y : Int64} (hd : decode bytes pc = .ok (.lxor, 1)) (hq : pc + 1 = q) (k : Goes p e below s R n0 Q (T.setTop (mkF m q Ls (.long (x ^^^ y) :: rest)))) : Goes p e below s R n0 Q (T.setTop (mkF m pc Ls (.long y :: .long x :: rest))) := by
  obtain ⟨locs, X, N, eh, hn, hx, hZ, hby, hml, hown, hnm, hret, hlk⟩ := X
  subst hby hq
  exact g_of (fun t r => XS.lxor X.here hx rfl hd rfl r) k
theorem g_idiv (X : Wk Z own nm bytes ml ret R n0 p l e s m args below meth c T cells slots h) {pc q : Nat} {Ls : Array Slot} {rest : List Value} {x y : Int32} (hd : decode bytes pc = .ok (.idiv, 1)) (hq : pc + 1 = q) (hy : y ≠ 0) (k : Goes p e below s R n0 Q (T.setTop (mkF m q Ls (.int (x / y) :: rest)))) : Goes p e below s R n0 Q (T.setTop (mkF m pc Ls (.int y :: .int x :: rest))) := by
  obtain ⟨locs, X, N, eh, hn, hx, hZ, hby, hml, hown, hnm, hret, hlk⟩ := X
  subst hby hq
  exact g_of (fun t r => XS.idiv X.here hx rfl hd rfl hy r) k
theorem g_irem (X : Wk Z own nm bytes ml ret R n0 p l e s m args below meth c T cells slots h) {pc q : Nat} {Ls : Array Slot} {rest : List Value} {x y : Int32} (hd : decode bytes pc = .ok (.irem, 1)) (hq : pc + 1 = q) (hy : y ≠ 0) (k : Goes p e below s R n0 Q (T.setTop (mkF m q Ls (.int (x % y) :: rest)))) : Goes p e below s R n0 Q (T.setTop (mkF m pc Ls (.int y :: .int x :: rest))) := by
  obtain ⟨locs, X, N, eh, hn, hx, hZ, hby, hml, hown, hnm, hret, hlk⟩ := X
  subst hby hq
  exact g_of (fun t r => XS.irem X.here hx rfl hd rfl hy (by rw [irem_eq_mod x y]; exact r)) k
theorem g_ldiv (X : Wk Z own nm bytes ml ret R n0 p l e s m args below meth c T cells slots h) {pc q : Nat} {Ls : Array Slot} {rest : List Value} {x y : Int64} (hd : decode bytes pc = .ok (.ldiv, 1)) (hq : pc + 1 = q) (hy : y ≠ 0) (k : Goes p e below s R n0 Q (T.setTop (mkF m q Ls (.long (x / y) :: rest)))) : Goes p e below s R n0 Q (T.setTop (mkF m pc Ls (.long y :: .long x :: rest))) := by
  obtain ⟨locs, X, N, eh, hn, hx, hZ, hby, hml, hown, hnm, hret, hlk⟩ := X
  subst hby hq
  exact g_of (fun t r => XS.ldiv X.here hx rfl hd rfl hy r) k
theorem g_lrem (X : Wk Z own nm bytes ml ret R n0 p l e s m args below meth c T cells slots h) {pc q : Nat} {Ls : Array Slot} {rest : List Value} {x y : Int64} (hd : decode bytes pc = .ok (.lrem, 1)) (hq : pc + 1 = q) (hy : y ≠ 0) (k : Goes p e below s R n0 Q (T.setTop (mkF m q Ls (.long (x % y) :: rest)))) : Goes p e below s R n0 Q (T.setTop (mkF m pc Ls (.long y :: .long x :: rest))) := by
  obtain ⟨locs, X, N, eh, hn, hx, hZ, hby, hml, hown, hnm, hret, hlk⟩ := X
  subst hby hq
  exact g_of (fun t r => XS.lrem X.here hx rfl hd rfl hy (by rw [lrem_mod x y]; exact r)) k
theorem g_ineg (X : Wk Z own nm bytes ml ret R n0 p l e s m args below meth c T cells slots h) {pc q : Nat} {Ls : Array Slot} {rest : List Value} {x : Int32} (hd : decode bytes pc = .ok (.ineg, 1)) (hq : pc + 1 = q) (k : Goes p e below s R n0 Q (T.setTop (mkF m q Ls (.int (-x) :: rest)))) : Goes p e below s R n0 Q (T.setTop (mkF m pc Ls (.int x :: rest))) := by
  obtain ⟨locs, X, N, eh, hn, hx, hZ, hby, hml, hown, hnm, hret, hlk⟩ := X
  subst hby hq
  exact g_of (fun t r => XS.ineg X.here hx rfl hd rfl r) k
theorem g_lneg (X : Wk Z own nm bytes ml ret R n0 p l e s m args below meth c T cells slots h) {pc q : Nat} {Ls : Array Slot} {rest : List Value} {x : Int64} (hd : decode bytes pc = .ok (.lneg, 1)) (hq : pc + 1 = q) (k : Goes p e below s R n0 Q (T.setTop (mkF m q Ls (.long (-x) :: rest)))) : Goes p e below s R n0 Q (T.setTop (mkF m pc Ls (.long x :: rest))) := by
  obtain ⟨locs, X, N, eh, hn, hx, hZ, hby, hml, hown, hnm, hret, hlk⟩ := X
  subst hby hq
  exact g_of (fun t r => XS.lneg X.here hx rfl hd rfl r) k
theorem g_i2l (X : Wk Z own nm bytes ml ret R n0 p l e s m args below meth c T cells slots h) {pc q : Nat} {Ls : Array Slot} {rest : List Value} {x : Int32} (hd : decode bytes pc = .ok (.i2l, 1)) (hq : pc + 1 = q) (k : Goes p e below s R n0 Q (T.setTop (mkF m q Ls (.long x.toInt64 :: rest)))) : Goes p e below s R n0 Q (T.setTop (mkF m pc Ls (.int x :: rest))) := by
  obtain ⟨locs, X, N, eh, hn, hx, hZ, hby, hml, hown, hnm, hret, hlk⟩ := X
  subst hby hq
  exact g_of (fun t r => XS.i2l X.here hx rfl hd rfl r) k
theorem g_l2i (X : Wk Z own nm bytes ml ret R n0 p l e s m args below meth c T cells slots h) {pc q : Nat} {Ls : Array Slot} {rest : List Value} {x : Int64} (hd : decode bytes pc = .ok (.l2i, 1)) (hq : pc + 1 = q) (k : Goes p e below s R n0 Q (T.setTop (mkF m q Ls (.int x.toInt32 :: rest)))) : Goes p e below s R n0 Q (T.setTop (mkF m pc Ls (.long x :: rest))) := by
  obtain ⟨locs, X, N, eh, hn, hx, hZ, hby, hml, hown, hnm, hret, hlk⟩ := X
  subst hby hq
  exact g_of (fun t r => XS.l2i X.here hx rfl hd rfl r) k
theorem g_i2b (X : Wk Z own nm bytes ml ret R n0 p l e s m args below meth c T cells slots h) {pc q : Nat} {Ls : Array Slot} {rest : List Value} {x : Int32} (hd : decode bytes pc = .ok (.i2b, 1)) (hq : pc + 1 = q) (k : Goes p e below s R n0 Q (T.setTop (mkF m q Ls (.int x.toInt8.toInt32 :: rest)))) : Goes p e below s R n0 Q (T.setTop (mkF m pc Ls (.int x :: rest))) := by
  obtain ⟨locs, X, N, eh, hn, hx, hZ, hby, hml, hown, hnm, hret, hlk⟩ := X
  subst hby hq
  exact g_of (fun t r => XS.i2b X.here hx rfl hd rfl r) k
theorem g_ishl (X : Wk Z own nm bytes ml ret R n0 p l e s m args below meth c T cells slots h) {pc q : Nat} {Ls : Array Slot} {rest : List Value} {x y : Int32} (hd : decode bytes pc = .ok (.ishl, 1)) (hq : pc + 1 = q) (k : Goes p e below s R n0 Q (T.setTop (mkF m q Ls (.int (x <<< (y &&& 31)) :: rest)))) : Goes p e below s R n0 Q (T.setTop (mkF m pc Ls (.int y :: .int x :: rest))) := by
  obtain ⟨locs, X, N, eh, hn, hx, hZ, hby, hml, hown, hnm, hret, hlk⟩ := X
  subst hby hq
  exact g_of (fun t r => XS.ishl X.here hx rfl hd rfl r) k
theorem g_ishr (X : Wk Z own nm bytes ml ret R n0 p l e s m args below meth c T cells slots h) {pc q : Nat} {Ls : Array Slot} {rest : List Value} {x y : Int32} (hd : decode bytes pc = .ok (.ishr, 1)) (hq : pc + 1 = q) (k : Goes p e below s R n0 Q (T.setTop (mkF m q Ls (.int (x >>> (y &&& 31)) :: rest)))) : Goes p e below s R n0 Q (T.setTop (mkF m pc Ls (.int y :: .int x :: rest))) := by
  obtain ⟨locs, X, N, eh, hn, hx, hZ, hby, hml, hown, hnm, hret, hlk⟩ := X
  subst hby hq
  exact g_of (fun t r => XS.ishr X.here hx rfl hd rfl r) k
theorem g_iushr (X : Wk Z own nm bytes ml ret R n0 p l e s m args below meth c T cells slots h) {pc q : Nat} {Ls : Array Slot} {rest : List Value} {x y : Int32} (hd : decode bytes pc = .ok (.iushr, 1)) (hq : pc + 1 = q) (k : Goes p e below s R n0 Q (T.setTop (mkF m q Ls (.int ((x.toUInt32 >>> (y &&& 31).toUInt32).toInt32) :: rest)))) : Goes p e below s R n0 Q (T.setTop (mkF m pc Ls (.int y :: .int x :: rest))) := by
  obtain ⟨locs, X, N, eh, hn, hx, hZ, hby, hml, hown, hnm, hret, hlk⟩ := X
  subst hby hq
  exact g_of (fun t r => XS.iushr X.here hx rfl hd rfl r) k
theorem g_lshl (X : Wk Z own nm bytes ml ret R n0 p l e s m args below meth c T cells slots h) {pc q : Nat} {Ls : Array Slot} {rest : List Value} {x : Int64} {y : Int32} (hd : decode bytes pc = .ok (.lshl, 1)) (hq : pc + 1 = q) (k : Goes p e below s R n0 Q (T.setTop (mkF m q Ls (.long (x <<< (y &&& 0x3f).toInt64) :: rest)))) : Goes p e below s R n0 Q (T.setTop (mkF m pc Ls (.int y :: .long x :: rest))) := by
  obtain ⟨locs, X, N, eh, hn, hx, hZ, hby, hml, hown, hnm, hret, hlk⟩ := X
  subst hby hq
  exact g_of (fun t r => XS.lshl X.here hx rfl hd rfl r) k
theorem g_lshr (X : Wk Z own nm bytes ml ret R n0 p l e s m args below meth c T cells slots h) {pc q : Nat} {Ls : Array Slot} {rest : List Value} {x : Int64} {y : Int32} (hd : decode bytes pc = .ok (.lshr, 1)) (hq : pc + 1 = q) (k : Goes p e below s R n0 Q (T.setTop (mkF m q Ls (.long (x >>> (y &&& 0x3f).toInt64) :: rest)))) : Goes p e below s R n0 Q (T.setTop (mkF m pc Ls (.int y :: .long x :: rest))) := by
  obtain ⟨locs, X, N, eh, hn, hx, hZ, hby, hml, hown, hnm, hret, hlk⟩ := X
  subst hby hq
  exact g_of (fun t r => XS.lshr X.here hx rfl hd rfl r) k
theorem g_lushr (X : Wk Z own nm bytes ml ret R n0 p l e s m args below meth c T cells slots h) {pc q : Nat} {Ls : Array Slot} {rest : List Value} {x : Int64} {y : Int32} (hd : decode bytes pc = .ok (.lushr, 1)) (hq : pc + 1 = q) (k : Goes p e below s R n0 Q (T.setTop (mkF m q Ls (.long ((x.toUInt64 >>> (y &&& 0x3f).toInt64.toUInt64).toInt64) :: rest)))) : Goes p e below s R n0 Q (T.setTop (mkF m pc Ls (.int y :: .long x :: rest))) := by
  obtain ⟨locs, X, N, eh, hn, hx, hZ, hby, hml, hown, hnm, hret, hlk⟩ := X
  subst hby hq
  exact g_of (fun t r => XS.lushr X.here hx rfl hd rfl r) k
theorem g_iload (X : Wk Z own nm bytes ml ret R n0 p l e s m args below meth c T cells slots h) {pc q : Nat} {Ls : Array Slot} {st : List Value} {i : Nat} {v : Int32} (hd : decode bytes pc = .ok (.iload i, 2)) (hq : pc + 2 = q) (hl : Ls[i]? = some (.val (.int v))) (k : Goes p e below s R n0 Q (T.setTop (mkF m q Ls (.int v :: st)))) : Goes p e below s R n0 Q (T.setTop (mkF m pc Ls st)) := by
  obtain ⟨locs, X, N, eh, hn, hx, hZ, hby, hml, hown, hnm, hret, hlk⟩ := X
  subst hby hq
  exact g_of (fun t r => XS.iload X.here hx rfl hd hl r) k
theorem g_iloadN (X : Wk Z own nm bytes ml ret R n0 p l e s m args below meth c T cells slots h) {pc q : Nat} {Ls : Array Slot} {st : List Value} {i : Fin 4} {v : Int32} (hd : decode bytes pc = .ok (.iload_n i, 1)) (hq : pc + 1 = q) (hl : Ls[i.val]? = some (.val (.int v))) (k : Goes p e below s R n0 Q (T.setTop (mkF m q Ls (.int v :: st)))) : Goes p e below s R n0 Q (T.setTop (mkF m pc Ls st)) := by
  obtain ⟨locs, X, N, eh, hn, hx, hZ, hby, hml, hown, hnm, hret, hlk⟩ := X
  subst hby hq
  exact g_of (fun t r => XS.iloadN X.here hx rfl hd hl r) k
theorem g_lload (X : Wk Z own nm bytes ml ret R n0 p l e s m args below meth c T cells slots h) {pc q : Nat} {Ls : Array Slot} {st : List Value} {i : Nat} {v : Int64} (hd : decode bytes pc = .ok (.lload i, 2)) (hq : pc + 2 = q) (hl : Ls[i]? = some (.val (.long v))) (k : Goes p e below s R n0 Q (T.setTop (mkF m q Ls (.long v :: st)))) : Goes p e below s R n0 Q (T.setTop (mkF m pc Ls st)) := by
  obtain ⟨locs, X, N, eh, hn, hx, hZ, hby, hml, hown, hnm, hret, hlk⟩ := X
  subst hby hq
  exact g_of (fun t r => XS.lload X.here hx rfl hd hl r) k
theorem g_lloadN (X : Wk Z own nm bytes ml ret R n0 p l e s m args below meth c T cells slots h) {pc q : Nat} {Ls : Array Slot} {st : List Value} {i : Fin 4} {v : Int64} (hd : decode bytes pc = .ok (.lload_n i, 1)) (hq : pc + 1 = q) (hl : Ls[i.val]? = some (.val (.long v))) (k : Goes p e below s R n0 Q (T.setTop (mkF m q Ls (.long v :: st)))) : Goes p e below s R n0 Q (T.setTop (mkF m pc Ls st)) := by
  obtain ⟨locs, X, N, eh, hn, hx, hZ, hby, hml, hown, hnm, hret, hlk⟩ := X
  subst hby hq
  exact g_of (fun t r => XS.lloadN X.here hx rfl hd hl r) k
theorem g_aload (X : Wk Z own nm bytes ml ret R n0 p l e s m args below meth c T cells slots h) {pc q : Nat} {Ls : Array Slot} {st : List Value} {i : Nat} {v : Value} (hd : decode bytes pc = .ok (.aload i, 2)) (hq : pc + 2 = q) (hl : Ls[i]? = some (.val v)) (hv : v.isRef = true) (k : Goes p e below s R n0 Q (T.setTop (mkF m q Ls (v :: st)))) : Goes p e below s R n0 Q (T.setTop (mkF m pc Ls st)) := by
  obtain ⟨locs, X, N, eh, hn, hx, hZ, hby, hml, hown, hnm, hret, hlk⟩ := X
  subst hby hq
  exact g_of (fun t r => XS.aload X.here hx rfl hd hl hv r) k
theorem g_aloadN (X : Wk Z own nm bytes ml ret R n0 p l e s m args below meth c T cells slots h) {pc q : Nat} {Ls : Array Slot} {st : List Value} {i : Fin 4} {v : Value} (hd : decode bytes pc = .ok (.aload_n i, 1)) (hq : pc + 1 = q) (hl : Ls[i.val]? = some (.val v)) (hv : v.isRef = true) (k : Goes p e below s R n0 Q (T.setTop (mkF m q Ls (v :: st)))) : Goes p e below s R n0 Q (T.setTop (mkF m pc Ls st)) := by
  obtain ⟨locs, X, N, eh, hn, hx, hZ, hby, hml, hown, hnm, hret, hlk⟩ := X
  subst hby hq
  exact g_of (fun t r => XS.aloadN X.here hx rfl hd hl hv r) k
theorem g_istore (X : Wk Z own nm bytes ml ret R n0 p l e s m args below meth c T cells slots h) {pc q : Nat} {Ls : Array Slot} {rest : List Value} {i : Nat} {v : Int32} {L' : Array Slot} (hd : decode bytes pc = .ok (.istore i, 2)) (hq : pc + 2 = q) (hl : storeLocals Ls i (.int v) = some L') (k : Goes p e below s R n0 Q (T.setTop (mkF m q L' rest))) : Goes p e below s R n0 Q (T.setTop (mkF m pc Ls (.int v :: rest))) := by
  obtain ⟨locs, X, N, eh, hn, hx, hZ, hby, hml, hown, hnm, hret, hlk⟩ := X
  subst hby hq
  exact g_of (fun t r => XS.istore X.here hx rfl hd rfl hl r) k
theorem g_istoreN (X : Wk Z own nm bytes ml ret R n0 p l e s m args below meth c T cells slots h) {pc q : Nat} {Ls : Array Slot} {rest : List Value} {i : Fin 4} {v : Int32} {L' : Array Slot} (hd : decode bytes pc = .ok (.istore_n i, 1)) (hq : pc + 1 = q) (hl : storeLocals Ls i.val (.int v) = some L') (k : Goes p e below s R n0 Q (T.setTop (mkF m q L' rest))) : Goes p e below s R n0 Q (T.setTop (mkF m pc Ls (.int v :: rest))) := by
  obtain ⟨locs, X, N, eh, hn, hx, hZ, hby, hml, hown, hnm, hret, hlk⟩ := X
  subst hby hq
  exact g_of (fun t r => XS.istoreN X.here hx rfl hd rfl hl r) k
theorem g_lstore (X : Wk Z own nm bytes ml ret R n0 p l e s m args below meth c T cells slots h) {pc q : Nat} {Ls : Array Slot} {rest : List Value} {i : Nat} {v : Int64} {L' : Array Slot} (hd : decode bytes pc = .ok (.lstore i, 2)) (hq : pc + 2 = q) (hl : storeLocals Ls i (.long v) = some L') (k : Goes p e below s R n0 Q (T.setTop (mkF m q L' rest))) : Goes p e below s R n0 Q (T.setTop (mkF m pc Ls (.long v :: rest))) := by
  obtain ⟨locs, X, N, eh, hn, hx, hZ, hby, hml, hown, hnm, hret, hlk⟩ := X
  subst hby hq
  exact g_of (fun t r => XS.lstore X.here hx rfl hd rfl hl r) k
theorem g_lstoreN (X : Wk Z own nm bytes ml ret R n0 p l e s m args below meth c T cells slots h) {pc q : Nat} {Ls : Array Slot} {rest : List Value} {i : Fin 4} {v : Int64} {L' : Array Slot} (hd : decode bytes pc = .ok (.lstore_n i, 1)) (hq : pc + 1 = q) (hl : storeLocals Ls i.val (.long v) = some L') (k : Goes p e below s R n0 Q (T.setTop (mkF m q L' rest))) : Goes p e below s R n0 Q (T.setTop (mkF m pc Ls (.long v :: rest))) := by
  obtain ⟨locs, X, N, eh, hn, hx, hZ, hby, hml, hown, hnm, hret, hlk⟩ := X
  subst hby hq
  exact g_of (fun t r => XS.lstoreN X.here hx rfl hd rfl hl r) k
theorem g_astore (X : Wk Z own nm bytes ml ret R n0 p l e s m args below meth c T cells slots h) {pc q : Nat} {Ls : Array Slot} {rest : List Value} {i : Nat} {v : Value} {L' : Array Slot} (hd : decode bytes pc = .ok (.astore i, 2)) (hq : pc + 2 = q) (hv : v.isRef = true) (hl : storeLocals Ls i v = some L') (k : Goes p e below s R n0 Q (T.setTop (mkF m q L' rest))) : Goes p e below s R n0 Q (T.setTop (mkF m pc Ls (v :: rest))) := by
  obtain ⟨locs, X, N, eh, hn, hx, hZ, hby, hml, hown, hnm, hret, hlk⟩ := X
  subst hby hq
  exact g_of (fun t r => XS.astore X.here hx rfl hd rfl hv hl r) k
theorem g_astoreN (X : Wk Z own nm bytes ml ret R n0 p l e s m args below meth c T cells slots h) {pc q : Nat} {Ls : Array Slot} {rest : List Value} {i : Fin 4} {v : Value} {L' : Array Slot} (hd : decode bytes pc = .ok (.astore_n i, 1)) (hq : pc + 1 = q) (hv : v.isRef = true) (hl : storeLocals Ls i.val v = some L') (k : Goes p e below s R n0 Q (T.setTop (mkF m q L' rest))) : Goes p e below s R n0 Q (T.setTop (mkF m pc Ls (v :: rest))) := by
  obtain ⟨locs, X, N, eh, hn, hx, hZ, hby, hml, hown, hnm, hret, hlk⟩ := X
  subst hby hq
  exact g_of (fun t r => XS.astoreN X.here hx rfl hd rfl hv hl r) k
theorem g_iconst (X : Wk Z own nm bytes ml ret R n0 p l e s m args below meth c T cells slots h) {pc q : Nat} {Ls : Array Slot} {st : List Value} {i : Int} {v : Int32} (hd : decode bytes pc = .ok (.iconst i, 1)) (hq : pc + 1 = q) (hv : Int32.ofInt i = v) (k : Goes p e below s R n0 Q (T.setTop (mkF m q Ls (.int v :: st)))) : Goes p e below s R n0 Q (T.setTop (mkF m pc Ls st)) := by
  obtain ⟨locs, X, N, eh, hn, hx, hZ, hby, hml, hown, hnm, hret, hlk⟩ := X
  subst hby hq
  exact g_of (fun t r => XS.iconst X.here hx rfl hd (by rw [hv]; exact r)) k
theorem g_bipush (X : Wk Z own nm bytes ml ret R n0 p l e s m args below meth c T cells slots h) {pc q : Nat} {Ls : Array Slot} {st : List Value} {i : Int} {v : Int32} (hd : decode bytes pc = .ok (.bipush i, 2)) (hq : pc + 2 = q) (hv : (Int8.ofInt i).toInt32 = v) (k : Goes p e below s R n0 Q (T.setTop (mkF m q Ls (.int v :: st)))) : Goes p e below s R n0 Q (T.setTop (mkF m pc Ls st)) := by
  obtain ⟨locs, X, N, eh, hn, hx, hZ, hby, hml, hown, hnm, hret, hlk⟩ := X
  subst hby hq
  exact g_of (fun t r => XS.bipush X.here hx rfl hd (by rw [hv]; exact r)) k
theorem g_sipush (X : Wk Z own nm bytes ml ret R n0 p l e s m args below meth c T cells slots h) {pc q : Nat} {Ls : Array Slot} {st : List Value} {i : Int} {v : Int32} (hd : decode bytes pc = .ok (.sipush i, 3)) (hq : pc + 3 = q) (hv : (Int16.ofInt i).toInt32 = v) (k : Goes p e below s R n0 Q (T.setTop (mkF m q Ls (.int v :: st)))) : Goes p e below s R n0 Q (T.setTop (mkF m pc Ls st)) := by
  obtain ⟨locs, X, N, eh, hn, hx, hZ, hby, hml, hown, hnm, hret, hlk⟩ := X
  subst hby hq
  exact g_of (fun t r => XS.sipush X.here hx rfl hd (by rw [hv]; exact r)) k
theorem g_lconst (X : Wk Z own nm bytes ml ret R n0 p l e s m args below meth c T cells slots h) {pc q : Nat} {Ls : Array Slot} {st : List Value} {i : Fin 2} {v : Int64} (hd : decode bytes pc = .ok (.lconst i, 1)) (hq : pc + 1 = q) (hv : Int64.ofNat i = v) (k : Goes p e below s R n0 Q (T.setTop (mkF m q Ls (.long v :: st)))) : Goes p e below s R n0 Q (T.setTop (mkF m pc Ls st)) := by
  obtain ⟨locs, X, N, eh, hn, hx, hZ, hby, hml, hown, hnm, hret, hlk⟩ := X
  subst hby hq
  exact g_of (fun t r => XS.lconst X.here hx rfl hd (by rw [hv]; exact r)) k
theorem g_aconst_null (X : Wk Z own nm bytes ml ret R n0 p l e s m args below meth c T cells slots h) {pc q : Nat} {Ls : Array Slot} {st : List Value} (hd : decode bytes pc = .ok (.aconst_null, 1)) (hq : pc + 1 = q) (k : Goes p e below s R n0 Q (T.setTop (mkF m q Ls (.null :: st)))) : Goes p e below s R n0 Q (T.setTop (mkF m pc Ls st)) := by
  obtain ⟨locs, X, N, eh, hn, hx, hZ, hby, hml, hown, hnm, hret, hlk⟩ := X
  subst hby hq
  exact g_of (fun t r => XS.aconstNull X.here hx rfl hd r) k
theorem g_dup (X : Wk Z own nm bytes ml ret R n0 p l e s m args below meth c T cells slots h) {pc q : Nat} {Ls : Array Slot} {rest : List Value} {v : Value} (hd : decode bytes pc = .ok (.dup, 1)) (hq : pc + 1 = q) (hv : v.category = 1) (k : Goes p e below s R n0 Q (T.setTop (mkF m q Ls (v :: v :: rest)))) : Goes p e below s R n0 Q (T.setTop (mkF m pc Ls (v :: rest))) := by
  obtain ⟨locs, X, N, eh, hn, hx, hZ, hby, hml, hown, hnm, hret, hlk⟩ := X
  subst hby hq
  exact g_of (fun t r => XS.dup X.here hx rfl hd rfl hv r) k
theorem g_dup_x1 (X : Wk Z own nm bytes ml ret R n0 p l e s m args below meth c T cells slots h) {pc q : Nat} {Ls : Array Slot} {rest : List Value} {v w : Value} (hd : decode bytes pc = .ok (.dup_x1, 1)) (hq : pc + 1 = q) (hv : v.category = 1) (hw : w.category = 1) (k : Goes p e below s R n0 Q (T.setTop (mkF m q Ls (v :: w :: v :: rest)))) : Goes p e below s R n0 Q (T.setTop (mkF m pc Ls (v :: w :: rest))) := by
  obtain ⟨locs, X, N, eh, hn, hx, hZ, hby, hml, hown, hnm, hret, hlk⟩ := X
  subst hby hq
  exact g_of (fun t r => XS.dupX1 X.here hx rfl hd rfl hv hw r) k
theorem g_dup2 (X : Wk Z own nm bytes ml ret R n0 p l e s m args below meth c T cells slots h) {pc q : Nat} {Ls : Array Slot} {rest : List Value} {v w : Value} (hd : decode bytes pc = .ok (.dup2, 1)) (hq : pc + 1 = q) (hv : v.category = 1) (hw : w.category = 1) (k : Goes p e below s R n0 Q (T.setTop (mkF m q Ls (v :: w :: v :: w :: rest)))) : Goes p e below s R n0 Q (T.setTop (mkF m pc Ls (v :: w :: rest))) := by
  obtain ⟨locs, X, N, eh, hn, hx, hZ, hby, hml, hown, hnm, hret, hlk⟩ := X
  subst hby hq
  exact g_of (fun t r => Jvm.Free.XT.dup2 X.here hx rfl hd rfl hv hw r) k
theorem g_dup2L (X : Wk Z own nm bytes ml ret R n0 p l e s m args below meth c T cells slots h) {pc q : Nat} {Ls : Array Slot} {rest : List Value} {x : Int64} (hd : decode bytes pc = .ok (.dup2, 1)) (hq : pc + 1 = q) (k : Goes p e below s R n0 Q (T.setTop (mkF m q Ls (.long x :: .long x :: rest)))) : Goes p e below s R n0 Q (T.setTop (mkF m pc Ls (.long x :: rest))) := by
  obtain ⟨locs, X, N, eh, hn, hx, hZ, hby, hml, hown, hnm, hret, hlk⟩ := X
  subst hby hq
  exact g_of (fun t r => Jvm.Free.XT.dup2L X.here hx rfl hd rfl r) k
theorem g_pop (X : Wk Z own nm bytes ml ret R n0 p l e s m args below meth c T cells slots h) {pc q : Nat} {Ls : Array Slot} {rest : List Value} {v : Value} (hd : decode bytes pc = .ok (.pop, 1)) (hq : pc + 1 = q) (hv : v.category = 1) (k : Goes p e below s R n0 Q (T.setTop (mkF m q Ls rest))) : Goes p e below s R n0 Q (T.setTop (mkF m pc Ls (v :: rest))) := by
  obtain ⟨locs, X, N, eh, hn, hx, hZ, hby, hml, hown, hnm, hret, hlk⟩ := X
  subst hby hq
  exact g_of (fun t r => XS.pop X.here hx rfl hd rfl hv r) k
theorem g_iinc (X : Wk Z own nm bytes ml ret R n0 p l e s m args below meth c T cells slots h) {pc q : Nat} {Ls L' : Array Slot} {st : List Value} {i : Nat} {cst : Int} {x d : Int32} (hd : decode bytes pc = .ok (.iinc i cst, 3)) (hq : pc + 3 = q) (hl : Ls[i]? = some (.val (.int x))) (hc : Int32.ofInt cst = d) (hl' : storeLocals Ls i (.int (x + d)) = some L') (k : Goes p e below s R n0 Q (T.setTop (mkF m q L' st))) : Goes p e below s R n0 Q (T.setTop (mkF m pc Ls st)) := by
  obtain ⟨locs, X, N, eh, hn, hx, hZ, hby, hml, hown, hnm, hret, hlk⟩ := X
  subst hby hq hc
  exact g_of (fun t r => XS.iinc X.here hx rfl hd hl hl' r) k
theorem g_goto (X : Wk Z own nm bytes ml ret R n0 p l e s m args below meth c T cells slots h) {pc q : Nat} {Ls : Array Slot} {st : List Value} {o : Int} (hd : decode bytes pc = .ok (.goto o, 3)) (ho : 0 ≤ (pc : Int) + o) (hq : ((pc : Int) + o).toNat = q) (k : Goes p e below s R n0 Q (T.setTop (mkF m q Ls st))) : Goes p e below s R n0 Q (T.setTop (mkF m pc Ls st)) := by
  obtain ⟨locs, X, N, eh, hn, hx, hZ, hby, hml, hown, hnm, hret, hlk⟩ := X
  subst hby
  exact g_of (fun t r => XS.goto X.here hx rfl (pc0 := pc) rfl hd ho hq r) k
theorem g_bor (X : Wk Z own nm bytes ml ret R n0 p l e s m args below meth c T cells slots h) {pc q : Nat} {Ls : Array Slot} {rest : List Value} {A B : Prop} [Decidable A] [Decidable B] (hd : decode bytes pc = .ok (.ior, 1)) (hq : pc + 1 = q) (k : Goes p e below s R n0 Q (T.setTop (mkF m q Ls (.int (bI (A ∨ B)) :: rest)))) : Goes p e below s R n0 Q (T.setTop (mkF m pc Ls (.int (bI B) :: .int (bI A) :: rest))) :=
  g_ior X hd hq (by rw [show bI A ||| bI B = bI (A ∨ B) from own_bor A B]; exact k)
theorem g_band (X : Wk Z own nm bytes ml ret R n0 p l e s m args below meth c T cells slots h) {pc q : Nat} {Ls : Array Slot} {rest : List Value} {A B : Prop} [Decidable A] [Decidable B] (hd : decode bytes pc = .ok (.iand, 1)) (hq : pc + 1 = q) (k : Goes p e below s R n0 Q (T.setTop (mkF m q Ls (.int (bI (A ∧ B)) :: rest)))) : Goes p e below s R n0 Q (T.setTop (mkF m pc Ls (.int (bI B) :: .int (bI A) :: rest))) :=
  g_iand X hd hq (by rw [show bI A &&& bI B = bI (A ∧ B) from own_band A B]; exact k)
theorem hI {cd : ClassFile.Cond} {x y : Int32} (hcd : cd = .lt ∨ cd = .gt ∨ cd = .eq) : (pcI cd x y → if_icmp.holds cd x y = true) ∧ (¬ pcI cd x y → if_icmp.holds cd x y = false) := by
  rcases hcd with rfl | rfl | rfl
  · exact ⟨fun q => (tlt q).1, fun q => (flt q).1⟩
  · exact ⟨fun q => (tlt q).2.2.1, fun q => (flt q).2.2.1⟩
  · exact ⟨fun q => (teq q).1, fun q => (feq q).1⟩
theorem hN {cd : ClassFile.Cond} {x y : Int32} (hcd : cd = .ge ∨ cd = .le ∨ cd = .ne) : (pcI cd x y → if_icmp.holds cd x y = false) ∧ (¬ pcI cd x y → if_icmp.holds cd x y = true) := by
  rcases hcd with rfl | rfl | rfl
  · exact ⟨fun q => (tlt q).2.1, fun q => (flt q).2.1⟩
  · exact ⟨fun q => (tlt q).2.2.2, fun q => (flt q).2.2.2⟩
  · exact ⟨fun q => (teq q).2, fun q => (feq q).2⟩
theorem pcL {cd : ClassFile.Cond} {x y : Int64} : pcI cd (lcmpW x y) 0 ↔ pcJ cd x y := by
  cases cd
  · exact lw_eq x y
  · exact lw_eq x y
  · exact lw_lt x y
  · exact lw_lt x y
  · exact lw_gt x y
  · exact lw_gt x y
instance pcI_dec (cd : ClassFile.Cond) (x y : Int32) : Decidable (pcI cd x y) := by cases cd <;> (unfold pcI; infer_instance)
theorem g_icmpA (X : Wk Z own nm bytes ml ret R n0 p l e s m args below meth c T cells slots h) {pc q t : Nat} {Ls : Array Slot} {rest : List Value} {o : Int} {cd : ClassFile.Cond} {x y : Int32} (hd : decode bytes pc = .ok (.if_icmp cd o, 3)) (hcd : cd = .lt ∨ cd = .gt ∨ cd = .eq) (hq : pc + 3 = q) (ho : 0 ≤ (pc : Int) + o) (ht : ((pc : Int) + o).toNat = t) (kP : pcI cd x y → Goes p e below s R n0 Q (T.setTop (mkF m t Ls rest))) (kN : ¬ pcI cd x y → Goes p e below s R n0 Q (T.setTop (mkF m q Ls rest))) : Goes p e below s R n0 Q (T.setTop (mkF m pc Ls (.int y :: .int x :: rest))) := by
  obtain ⟨locs, X, N, eh, hn, hx, hZ, hby, hml, hown, hnm, hret, hlk⟩ := X
  subst hby hq
  by_cases hP : pcI cd x y
  · exact g_of (fun _ r => XS.icmpYes X.here hx rfl (pc0 := pc) rfl hd rfl ((hI hcd).1 hP) ho ht r) (kP hP)
  · exact g_of (fun _ r => XS.icmpNo X.here hx rfl hd rfl ((hI hcd).2 hP) r) (kN hP)
theorem g_ifA (X : Wk Z own nm bytes ml ret R n0 p l e s m args below meth c T cells slots h) {pc q t : Nat} {Ls : Array Slot} {rest : List Value} {o : Int} {cd : ClassFile.Cond} {x : Int32} (hd : decode bytes pc = .ok (.ifCond cd o, 3)) (hcd : cd = .lt ∨ cd = .gt ∨ cd = .eq) (hq : pc + 3 = q) (ho : 0 ≤ (pc : Int) + o) (ht : ((pc : Int) + o).toNat = t) (kP : pcI cd x 0 → Goes p e below s R n0 Q (T.setTop (mkF m t Ls rest))) (kN : ¬ pcI cd x 0 → Goes p e below s R n0 Q (T.setTop (mkF m q Ls rest))) : Goes p e below s R n0 Q (T.setTop (mkF m pc Ls (.int x :: rest))) := by
  obtain ⟨locs, X, N, eh, hn, hx, hZ, hby, hml, hown, hnm, hret, hlk⟩ := X
  subst hby hq
  by_cases hP : pcI cd x 0
  · exact g_of (fun _ r => XS.ifYes X.here hx rfl (pc0 := pc) rfl hd rfl ((if0 _ _).trans ((hI hcd).1 hP)) ho ht r) (kP hP)
  · exact g_of (fun _ r => XS.ifNo X.here hx rfl hd rfl ((if0 _ _).trans ((hI hcd).2 hP)) r) (kN hP)
theorem g_lcmpA (X : Wk Z own nm bytes ml ret R n0 p l e s m args below meth c T cells slots h) {pc q t : Nat} {Ls : Array Slot} {rest : List Value} {o : Int} {cd : ClassFile.Cond} {x y : Int64} {q1 : Nat} (hd0 : decode bytes pc = .ok (.lcmp, 1)) (hq1 : pc + 1 = q1) (hd : decode bytes q1 = .ok (.ifCond cd o, 3)) (hcd : cd = .lt ∨ cd = .gt ∨ cd = .eq) (hq : q1 + 3 = q) (ho : 0 ≤ (q1 : Int) + o) (ht : ((q1 : Int) + o).toNat = t) (kP : pcJ cd x y → Goes p e below s R n0 Q (T.setTop (mkF m t Ls rest))) (kN : ¬ pcJ cd x y → Goes p e below s R n0 Q (T.setTop (mkF m q Ls rest))) : Goes p e below s R n0 Q (T.setTop (mkF m pc Ls (.long y :: .long x :: rest))) := by
  refine g_lcmp X hd0 hq1 (g_ifA X hd hcd hq ho ht (fun z => kP (pcL.mp z)) (fun z => kN (fun w => z (pcL.mpr w))))
theorem g_icmpB (X : Wk Z own nm bytes ml ret R n0 p l e s m args below meth c T cells slots h) {pc q t : Nat} {Ls : Array Slot} {rest : List Value} {o : Int} {cd : ClassFile.Cond} {x y : Int32} (hd : decode bytes pc = .ok (.if_icmp cd o, 3)) (hcd : cd = .ge ∨ cd = .le ∨ cd = .ne) (hq : pc + 3 = q) (ho : 0 ≤ (pc : Int) + o) (ht : ((pc : Int) + o).toNat = t) (kP : pcI cd x y → Goes p e below s R n0 Q (T.setTop (mkF m q Ls rest))) (kN : ¬ pcI cd x y → Goes p e below s R n0 Q (T.setTop (mkF m t Ls rest))) : Goes p e below s R n0 Q (T.setTop (mkF m pc Ls (.int y :: .int x :: rest))) := by
  obtain ⟨locs, X, N, eh, hn, hx, hZ, hby, hml, hown, hnm, hret, hlk⟩ := X
  subst hby hq
  by_cases hP : pcI cd x y
  · exact g_of (fun _ r => XS.icmpNo X.here hx rfl hd rfl ((hN hcd).1 hP) r) (kP hP)
  · exact g_of (fun _ r => XS.icmpYes X.here hx rfl (pc0 := pc) rfl hd rfl ((hN hcd).2 hP) ho ht r) (kN hP)
theorem g_ifB (X : Wk Z own nm bytes ml ret R n0 p l e s m args below meth c T cells slots h) {pc q t : Nat} {Ls : Array Slot} {rest : List Value} {o : Int} {cd : ClassFile.Cond} {x : Int32} (hd : decode bytes pc = .ok (.ifCond cd o, 3)) (hcd : cd = .ge ∨ cd = .le ∨ cd = .ne) (hq : pc + 3 = q) (ho : 0 ≤ (pc : Int) + o) (ht : ((pc : Int) + o).toNat = t) (kP : pcI cd x 0 → Goes p e below s R n0 Q (T.setTop (mkF m q Ls rest))) (kN : ¬ pcI cd x 0 → Goes p e below s R n0 Q (T.setTop (mkF m t Ls rest))) : Goes p e below s R n0 Q (T.setTop (mkF m pc Ls (.int x :: rest))) := by
  obtain ⟨locs, X, N, eh, hn, hx, hZ, hby, hml, hown, hnm, hret, hlk⟩ := X
  subst hby hq
  by_cases hP : pcI cd x 0
  · exact g_of (fun _ r => XS.ifNo X.here hx rfl hd rfl ((if0 _ _).trans ((hN hcd).1 hP)) r) (kP hP)
  · exact g_of (fun _ r => XS.ifYes X.here hx rfl (pc0 := pc) rfl hd rfl ((if0 _ _).trans ((hN hcd).2 hP)) ho ht r) (kN hP)
theorem g_lcmpB (X : Wk Z own nm bytes ml ret R n0 p l e s m args below meth c T cells slots h) {pc q t : Nat} {Ls : Array Slot} {rest : List Value} {o : Int} {cd : ClassFile.Cond} {x y : Int64} {q1 : Nat} (hd0 : decode bytes pc = .ok (.lcmp, 1)) (hq1 : pc + 1 = q1) (hd : decode bytes q1 = .ok (.ifCond cd o, 3)) (hcd : cd = .ge ∨ cd = .le ∨ cd = .ne) (hq : q1 + 3 = q) (ho : 0 ≤ (q1 : Int) + o) (ht : ((q1 : Int) + o).toNat = t) (kP : pcJ cd x y → Goes p e below s R n0 Q (T.setTop (mkF m q Ls rest))) (kN : ¬ pcJ cd x y → Goes p e below s R n0 Q (T.setTop (mkF m t Ls rest))) : Goes p e below s R n0 Q (T.setTop (mkF m pc Ls (.long y :: .long x :: rest))) := by
  refine g_lcmp X hd0 hq1 (g_ifB X hd hcd hq ho ht (fun z => kP (pcL.mp z)) (fun z => kN (fun w => z (pcL.mpr w))))
theorem g_bne (X : Wk Z own nm bytes ml ret R n0 p l e s m args below meth c T cells slots h) {pc q t : Nat} {Ls : Array Slot} {rest : List Value} {o : Int} {c' : Prop} [Decidable c'] (hd : decode bytes pc = .ok (.ifCond .ne o, 3)) (hq : pc + 3 = q) (ho : 0 ≤ (pc : Int) + o) (ht : ((pc : Int) + o).toNat = t) (kP : c' → Goes p e below s R n0 Q (T.setTop (mkF m t Ls rest))) (kN : ¬ c' → Goes p e below s R n0 Q (T.setTop (mkF m q Ls rest))) : Goes p e below s R n0 Q (T.setTop (mkF m pc Ls (.int (bI c') :: rest))) :=
  g_ifB X hd (Or.inr (Or.inr rfl)) hq ho ht (fun z => kN ((bI_eq0 c').mp z)) (fun z => kP (Decidable.of_not_not fun w => z ((bI_eq0 c').mpr w)))
theorem g_beq (X : Wk Z own nm bytes ml ret R n0 p l e s m args below meth c T cells slots h) {pc q t : Nat} {Ls : Array Slot} {rest : List Value} {o : Int} {c' : Prop} [Decidable c'] (hd : decode bytes pc = .ok (.ifCond .eq o, 3)) (hq : pc + 3 = q) (ho : 0 ≤ (pc : Int) + o) (ht : ((pc : Int) + o).toNat = t) (kP : c' → Goes p e below s R n0 Q (T.setTop (mkF m q Ls rest))) (kN : ¬ c' → Goes p e below s R n0 Q (T.setTop (mkF m t Ls rest))) : Goes p e below s R n0 Q (T.setTop (mkF m pc Ls (.int (bI c') :: rest))) :=
  g_ifA X hd (Or.inr (Or.inr rfl)) hq ho ht (fun z => kN ((bI_eq0 c').mp z)) (fun z => kP (Decidable.of_not_not fun w => z ((bI_eq0 c').mpr w)))
theorem g_ifnullY (X : Wk Z own nm bytes ml ret R n0 p l e s m args below meth c T cells slots h) {pc q : Nat} {Ls : Array Slot} {rest : List Value} {o : Int} (hd : decode bytes pc = .ok (.ifnull o, 3)) (ho : 0 ≤ (pc : Int) + o) (hq : ((pc : Int) + o).toNat = q) (k : Goes p e below s R n0 Q (T.setTop (mkF m q Ls rest))) : Goes p e below s R n0 Q (T.setTop (mkF m pc Ls (.null :: rest))) := by
  obtain ⟨locs, X, N, eh, hn, hx, hZ, hby, hml, hown, hnm, hret, hlk⟩ := X
  subst hby
  exact g_of (fun t r => XS.ifnullYes X.here hx rfl (pc0 := pc) rfl hd rfl ho hq r) k
theorem g_ifnullN (X : Wk Z own nm bytes ml ret R n0 p l e s m args below meth c T cells slots h) {pc q : Nat} {Ls : Array Slot} {rest : List Value} {o : Int} {b : Addr} (hd : decode bytes pc = .ok (.ifnull o, 3)) (hq : pc + 3 = q) (k : Goes p e below s R n0 Q (T.setTop (mkF m q Ls rest))) : Goes p e below s R n0 Q (T.setTop (mkF m pc Ls (.ref b :: rest))) := by
  obtain ⟨locs, X, N, eh, hn, hx, hZ, hby, hml, hown, hnm, hret, hlk⟩ := X
  subst hby hq
  exact g_of (fun t r => XS.ifnullNo X.here hx rfl hd rfl r) k
theorem g_ifnonnullY (X : Wk Z own nm bytes ml ret R n0 p l e s m args below meth c T cells slots h) {pc q : Nat} {Ls : Array Slot} {rest : List Value} {o : Int} {b : Addr} (hd : decode bytes pc = .ok (.ifnonnull o, 3)) (ho : 0 ≤ (pc : Int) + o) (hq : ((pc : Int) + o).toNat = q) (k : Goes p e below s R n0 Q (T.setTop (mkF m q Ls rest))) : Goes p e below s R n0 Q (T.setTop (mkF m pc Ls (.ref b :: rest))) := by
  obtain ⟨locs, X, N, eh, hn, hx, hZ, hby, hml, hown, hnm, hret, hlk⟩ := X
  subst hby
  exact g_of (fun t r => XS.ifnonnullYes X.here hx rfl (pc0 := pc) rfl hd rfl ho hq r) k
theorem g_ifnonnullN (X : Wk Z own nm bytes ml ret R n0 p l e s m args below meth c T cells slots h) {pc q : Nat} {Ls : Array Slot} {rest : List Value} {o : Int} (hd : decode bytes pc = .ok (.ifnonnull o, 3)) (hq : pc + 3 = q) (k : Goes p e below s R n0 Q (T.setTop (mkF m q Ls rest))) : Goes p e below s R n0 Q (T.setTop (mkF m pc Ls (.null :: rest))) := by
  obtain ⟨locs, X, N, eh, hn, hx, hZ, hby, hml, hown, hnm, hret, hlk⟩ := X
  subst hby hq
  exact g_of (fun t r => XS.ifnonnullNo X.here hx rfl hd rfl r) k
theorem g_acmp (X : Wk Z own nm bytes ml ret R n0 p l e s m args below meth c T cells slots h) {pc q : Nat} {Ls : Array Slot} {rest : List Value} {o : Int} {cd : ACond} {x y : Value} {same : Bool} (hd : decode bytes pc = .ok (.if_acmp cd o, 3)) (h1 : x.isRef = true) (h2 : y.isRef = true) (hs : decide (x = y) = same) (ho : 0 ≤ (pc : Int) + o) (hq : q = if acV cd same = true then ((pc : Int) + o).toNat else pc + 3) (k : Goes p e below s R n0 Q (T.setTop (mkF m q Ls rest))) : Goes p e below s R n0 Q (T.setTop (mkF m pc Ls (y :: x :: rest))) := by
  obtain ⟨locs, X, N, eh, hn, hx, hZ, hby, hml, hown, hnm, hret, hlk⟩ := X
  subst hby
  exact g_of (fun t r => Jvm.RoadKit.acmp (g := mkF m pc Ls (y :: x :: rest)) X hx rfl h1 h2 (pc0 := pc) rfl hd rfl hs ho hq r) k

theorem g_ldc2 (X : Wk Z own nm bytes ml ret R n0 p l e s m args below meth c T cells slots h) {index : Nat} {v : Int64} (w : (Jvm.Cond.constantLong own index v).before a0 Z = true) {pc q : Nat} {Ls : Array Slot} {st : List Value} (hd : decode bytes pc = .ok (.ldc2_w index, 3)) (hq : pc + 3 = q) (k : Goes p e below s R n0 Q (T.setTop (mkF m q Ls (.long v :: st)))) : Goes p e below s R n0 Q (T.setTop (mkF m pc Ls st)) := by
  obtain ⟨locs, X, N, eh, hn, hx, hZ, hby, hml, hown, hnm, hret, hlk⟩ := X
  subst hby hq
  exact g_of (fun t r => X.ldc2Long hx hown (mvT hZ w) (g := mkF m pc Ls st) rfl hd t r) k
theorem g_ldc (X : Wk Z own nm bytes ml ret R n0 p l e s m args below meth c T cells slots h) {index : Nat} {v : Int32} (w : (Jvm.Cond.constant own index v).before a0 Z = true) {pc q : Nat} {Ls : Array Slot} {st : List Value} (hd : decode bytes pc = .ok (.ldc index, 2)) (hq : pc + 2 = q) (k : Goes p e below s R n0 Q (T.setTop (mkF m q Ls (.int v :: st)))) : Goes p e below s R n0 Q (T.setTop (mkF m pc Ls st)) := by
  obtain ⟨locs, X, N, eh, hn, hx, hZ, hby, hml, hown, hnm, hret, hlk⟩ := X
  subst hby hq
  exact g_of (fun t r => X.ldcInt hx hown (mvT hZ w) (g := mkF m pc Ls st) rfl hd t r) k
theorem g_getF (X : Wk Z own nm bytes ml ret R n0 p l e s m args below meth c T cells slots h) {index : Nat} {R0 O n d : String} (w : (Jvm.Cond.fieldLink own index R0 n d).before a0 Z = true) (via : Via Z R0 O n d) {a : Addr} {v : Value} (F : Fld Z h a O n d v) {pc q : Nat} {Ls : Array Slot} {rest : List Value} (hd : decode bytes pc = .ok (.getfield index, 3)) (hq : pc + 3 = q)
    (k : ∀ T', Wk Z own nm bytes ml ret R n0 p l e s m args below meth c T' cells slots h → Goes p e below s R n0 Q (T'.setTop (mkF m q Ls (v :: rest)))) : Goes p e below s R n0 Q (T.setTop (mkF m pc Ls (.ref a :: rest))) := by
  obtain ⟨locs, X, N, eh, hn, hx, hZ, hby, hml, hown, hnm, hret, hlk⟩ := X
  subst hby hq
  obtain ⟨T', X', e', st⟩ := getF X hx hZ hown (host := "") (Or.inl w) via eh F (g := mkF m pc Ls (.ref a :: rest)) rfl rfl hd
  exact g_of st (k T' ⟨locs, X', N, e', hn, hx, hZ, rfl, hml, hown, hnm, hret, hlk⟩)
theorem g_putF (X : Wk Z own nm bytes ml ret R n0 p l e s m args below meth c T cells slots h) {index kk : Nat} {R0 O n d C : String} {ty : FieldType} (w : (Jvm.Cond.fieldLink own index R0 n d).before a0 Z = true) (via : Via Z R0 O n d) {a : Addr} {v old : Value} (F : Fld Z h a O n d old) (E : Exa Z h a C) (L : (Jvm.Cond.lays C O n d).before a0 Z = true ∨ ((Jvm.Cond.laysFinal C O n d).before a0 Z = true ∧ own = O ∧ nm = "<init>")) (wi : (Jvm.Cond.instantiable C kk).before a0 Z = true) (hty : parseFieldDescriptor d = some ty) (hnr : narrow ty v = v) (hf : fits ty v = true) (ga : n0 ≤ a) {pc q : Nat} {Ls : Array Slot} {rest : List Value} (hd : decode bytes pc = .ok (.putfield index, 3)) (hq : pc + 3 = q)
    (k : ∀ T' h', Wk Z own nm bytes ml ret R n0 p l e s m args below meth c T' cells slots h' → Wr h h' a (Jvm.RoadKit.slotOf Z O n d) v → Goes p e below s R n0 Q (T'.setTop (mkF m q Ls rest))) : Goes p e below s R n0 Q (T.setTop (mkF m pc Ls (v :: .ref a :: rest))) := by
  obtain ⟨locs, X, N, eh, hn, hx, hZ, hby, hml, hown, hnm, hret, hlk⟩ := X
  subst hby hq
  obtain ⟨T', h', X', e', W', st⟩ := putF X hx hZ hown (host := "") (Or.inl w) via eh F E (L.imp id fun z => ⟨z.1, z.2.1, hnm.trans z.2.2⟩) wi hty hnr hf (g := mkF m pc Ls (v :: .ref a :: rest)) rfl rfl hd
  exact g_of st (k T' h' ⟨_, X', Fr.snoc X' N ga, e', hn, hx, hZ, rfl, hml, hown, hnm, hret, hlk⟩ W')
theorem g_new (X : Wk Z own nm bytes ml ret R n0 p l e s m args below meth c T cells slots h) {index n : Nat} {C : String} (w : (Jvm.Cond.classLink own index C).before a0 Z = true) (wi : (Jvm.Cond.instantiable C n).before a0 Z = true) (wz : (Jvm.Cond.initialized C).before a0 Z = true) {pc q c2 s2 : Nat} {Ls : Array Slot} {st : List Value} (hd : decode bytes pc = .ok (.new index, 3)) (hq : pc + 3 = q) (hc : cells + 1 = c2) (hs : slots + n = s2) (hcR : c2 ≤ R.cells) (hsR : s2 ≤ R.slots)
    (k : ∀ T' h' b, Wk Z own nm bytes ml ret R n0 p l e s m args below meth c T' c2 s2 h' → b = h.size → n0 ≤ b → Ext h h' → Exa Z h' b C → (∀ {O nm d : String} {ty : FieldType}, Laid Z a0 C O nm d → parseFieldDescriptor d = some ty → Fld Z h' b O nm d (defaultValue ty)) → Goes p e below s R n0 Q (T'.setTop (mkF m q Ls (.ref b :: st)))) : Goes p e below s R n0 Q (T.setTop (mkF m pc Ls st)) := by
  obtain ⟨locs, X, N, eh, hn, hx, hZ, hby, hml, hown, hnm, hret, hlk⟩ := X
  subst hby hq hc hs
  obtain ⟨T', h', X', e', E', A', D', -, stp⟩ := newO X hx hZ hown w wi wz eh (g := mkF m pc Ls st) rfl hd hcR hsR
  exact g_of stp (k T' h' _ ⟨locs, X', N, e', hn, hx, hZ, rfl, hml, hown, hnm, hret, hlk⟩ rfl (Wk.size ⟨locs, X, N, eh, hn, hx, hZ, rfl, hml, hown, hnm, hret, hlk⟩) E' A' D')
theorem g_initO (X : Wk Z own nm bytes ml ret R n0 p l e s m args below meth c T cells slots h) {index : Nat} (w1 : (Jvm.Cond.methodLink own index Lib.objectInit).before a0 Z = true) (w2 : (Jvm.Cond.instanceMethod Lib.objectInit).before a0 Z = true) (w3 : (Jvm.Cond.code Lib.objectInit ⟨#[0xb1]⟩ 1 none).before a0 Z = true) {a : Addr} {pc q W : Nat} {Ls : Array Slot} {rest : List Value} (hd : decode bytes pc = .ok (.invokespecial index, 3)) (hq : pc + 3 = q) (hLs : Ls.size = ml) (hf : 1 ≤ R.frames) (hW : (rest.map fun v => v.category).sum = W) (hl : W + 12 ≤ R.locals)
    (k : ∀ T', Wk Z own nm bytes ml ret R n0 p l e s m args below meth c T' cells slots h → Goes p e below s R n0 Q (T'.setTop (mkF m q Ls rest))) : Goes p e below s R n0 Q (T.setTop (mkF m pc Ls (.ref a :: rest))) := by
  obtain ⟨locs, X, N, eh, hn, hx, hZ, hby, hml, hown, hnm, hret, hlk⟩ := X
  subst hby hq
  obtain ⟨T', X', e', st⟩ := initO X hx hZ hown w1 w2 w3 eh (g := mkF m pc Ls (.ref a :: rest)) rfl (hLs.trans hml.symm) rfl hd hf (W := W) (by show 2 * 0 + _ ≤ _; omega) hl
  exact g_of st (k T' ⟨locs, X', N, e', hn, hx, hZ, rfl, hml, hown, hnm, hret, hlk⟩)
theorem own_back {index W : Nat} {y : MethodName} {yb : ByteArray} {yml : Nat} {yret : Option FieldType} {Ry : Room} {as' : Array Value} {len : Nat} {Qy : Option Value → Heap → Prop} (hZ : Z.Warmed39 s.vm) (w3 : (Jvm.Cond.initialized y.cls).before a0 Z = true) (w4 : (Jvm.Cond.code y yb yml yret).before a0 Z = true) (hM : Met l Z y yb yml yret Ry [] n0 as' h Qy) (hf : Ry.frames + 1 ≤ R.frames) (hlc : W + (yml + 11) + Ry.locals ≤ R.locals) :
    Back l R p e below s args y len W (fun A a => a = as' ∧ A.U.heap = h ∧ A.cells + Ry.cells ≤ R.cells ∧ A.slots + Ry.slots ≤ R.slots)
      (fun A _ v B => ∃ L, (Fr n0 L ∧ Qy v B.U.heap) ∧ B.locs = A.locs ++ L ∧ B.cells = A.cells + Ry.cells ∧ B.slots = A.slots + Ry.slots) :=
  backOf (Q := fun v h L => Fr n0 L ∧ Qy v h) hM hZ w4 w3 hf hlc
theorem g_callS (X : Wk Z own nm bytes ml ret R n0 p l e s m args below meth c T cells slots h) {index : Nat} {y : MethodName} {yb : ByteArray} {yml : Nat} {yret : Option FieldType} {Ry : Room} {Qy : Option Value → Heap → Prop} {ps : List FieldType} {r : Option FieldType} (as rest : List Value) (w1 : (Jvm.Cond.methodLink own index y).before a0 Z = true) (w2 : (Jvm.Cond.static y).before a0 Z = true) (w3 : (Jvm.Cond.initialized y.cls).before a0 Z = true) (w4 : (Jvm.Cond.code y yb yml yret).before a0 Z = true) (hy : y.cls ≠ "java/lang/invoke/MethodHandle" ∧ y.cls ≠ "java/lang/invoke/VarHandle") (hM : Met l Z y yb yml yret Ry [] n0 as.toArray h Qy) (hp : parseMethodDescriptor y.desc = some ⟨ps, r⟩) (hl : as.length = ps.length)
    {pc q c2 s2 W : Nat} {Ls : Array Slot} {st : List Value} (hst : st = as.reverse ++ rest) (hLs : Ls.size = ml) (hd : decode bytes pc = .ok (.invokestatic index, 3)) (hq : pc + 3 = q) (hW : (rest.map fun v => v.category).sum = W) (hf : Ry.frames + 1 ≤ R.frames) (hlc : W + (yml + 11) + Ry.locals ≤ R.locals) (hc : cells + Ry.cells = c2) (hs : slots + Ry.slots = s2) (hcR : c2 ≤ R.cells) (hsR : s2 ≤ R.slots)
    (k : ∀ v T' h', Wk Z own nm bytes ml ret R n0 p l e s m args below meth c T' c2 s2 h' → Qy v h' → Goes p e below s R n0 Q (T'.setTop (mkF m q Ls (v.toList ++ rest)))) : Goes p e below s R n0 Q (T.setTop (mkF m pc Ls st)) := by
  obtain ⟨locs, X, N, eh, hn, hx, hZ, hby, hml, hown, hnm, hret, hlk⟩ := X
  subst hby hq hc hs hst
  obtain ⟨v, _, ⟨T', L', k', n'⟩, -, X', ⟨Lc, ⟨hF, hQy⟩, l', y', z'⟩, stp⟩ := Jvm.LawKit.callS X hx (y := y) hown (mvT hZ w1) (mvT hZ w2) (mvT hZ w3) (mvT hZ w4) hy (own_back (index := index) (W := W) hZ w3 w4 hM hf hlc) (g := mkF m pc Ls (as.reverse ++ rest)) rfl (hLs.trans hml.symm) (argsL := as) (rest := rest) (lenOf hp hl) rfl (by show 2 * 0 + _ ≤ _; omega) hd (fun _ _ => ⟨rfl, eh, hcR, hsR⟩)
  dsimp only [Pt.U, Pt.locs, Pt.cells, Pt.slots] at X' l' y' z' stp hQy
  subst l' y' z'
  exact g_of stp (k v T' _ ⟨_, X', Fr.app N hF, rfl, hn, hx, hZ, rfl, hml, hown, hnm, hret, hlk⟩ hQy)
theorem g_callI (X : Wk Z own nm bytes ml ret R n0 p l e s m args below meth c T cells slots h) {index : Nat} {y : MethodName} {yb : ByteArray} {yml : Nat} {Ry : Room} {Qy : Option Value → Heap → Prop} {ps : List FieldType} {r : Option FieldType} {a : Addr} (as rest : List Value) (hy1 : y.name = "<init>") (w1 : (Jvm.Cond.methodLink own index y).before a0 Z = true) (w2 : (Jvm.Cond.instanceMethod y).before a0 Z = true) (w3 : (Jvm.Cond.initialized y.cls).before a0 Z = true) (w4 : (Jvm.Cond.code y yb yml none).before a0 Z = true) (hy : y.cls ≠ "java/lang/invoke/MethodHandle" ∧ y.cls ≠ "java/lang/invoke/VarHandle") (hM : Met l Z y yb yml none Ry [] n0 (.ref a :: as).toArray h Qy) (hp : parseMethodDescriptor y.desc = some ⟨ps, r⟩) (hl : as.length = ps.length)
    {pc q c2 s2 W : Nat} {Ls : Array Slot} {st : List Value} (hst : st = as.reverse ++ .ref a :: rest) (hLs : Ls.size = ml) (hd : decode bytes pc = .ok (.invokespecial index, 3)) (hq : pc + 3 = q) (hW : (rest.map fun v => v.category).sum = W) (hf : Ry.frames + 1 ≤ R.frames) (hlc : W + (yml + 11) + Ry.locals ≤ R.locals) (hc : cells + Ry.cells = c2) (hs : slots + Ry.slots = s2) (hcR : c2 ≤ R.cells) (hsR : s2 ≤ R.slots)
    (k : ∀ v T' h', Wk Z own nm bytes ml ret R n0 p l e s m args below meth c T' c2 s2 h' → Qy v h' → Goes p e below s R n0 Q (T'.setTop (mkF m q Ls (v.toList ++ rest)))) : Goes p e below s R n0 Q (T.setTop (mkF m pc Ls st)) := by
  obtain ⟨locs, X, N, eh, hn, hx, hZ, hby, hml, hown, hnm, hret, hlk⟩ := X
  subst hby hq hc hs hst
  obtain ⟨v, _, ⟨T', L', k', n'⟩, -, X', ⟨Lc, ⟨hF, hQy⟩, l', y', z'⟩, stp⟩ := X.specialBack hx (y := y) hy1 hown (mvT hZ w1) (mvT hZ w2) (mvT hZ w4) hy (own_back (index := index) (W := W) hZ w3 w4 hM hf hlc) (g := mkF m pc Ls (as.reverse ++ .ref a :: rest)) rfl (hLs.trans hml.symm) (Steps.refl _) (a := a) (argsL := as) (rest := rest) (lenOf hp hl) rfl (by show 2 * 0 + _ ≤ _; omega) hd (fun _ _ => ⟨rfl, eh, hcR, hsR⟩)
  dsimp only [Pt.U, Pt.locs, Pt.cells, Pt.slots] at X' l' y' z' stp hQy
  subst l' y' z'
  exact g_of (fun _ r => stp.trans r) (k v T' _ ⟨_, X', Fr.app N hF, rfl, hn, hx, hZ, rfl, hml, hown, hnm, hret, hlk⟩ hQy)
theorem g_callV (X : Wk Z own nm bytes ml ret R n0 p l e s m args below meth c T cells slots h) {index : Nat} {y : MethodName} {yb : ByteArray} {yml : Nat} {yret : Option FieldType} {Ry : Room} {Qy : Option Value → Heap → Prop} {ps : List FieldType} {r : Option FieldType} {a : Addr} {C : String} (E : Exa Z h a C) (as rest : List Value) (w1 : (Jvm.Cond.methodLink own index y).before a0 Z = true) (w2 : (Jvm.Cond.declares y).before a0 Z = true) (w5 : (Jvm.Cond.selects C y y).before a0 Z = true) (w6 : (Jvm.Cond.instanceMethod y).before a0 Z = true) (w3 : (Jvm.Cond.initialized y.cls).before a0 Z = true) (w4 : (Jvm.Cond.code y yb yml yret).before a0 Z = true) (hy : y.cls ≠ "java/lang/invoke/MethodHandle" ∧ y.cls ≠ "java/lang/invoke/VarHandle") (hM : Met l Z y yb yml yret Ry [] n0 (.ref a :: as).toArray h Qy) (hp : parseMethodDescriptor y.desc = some ⟨ps, r⟩) (hl : as.length = ps.length)
    {pc q c2 s2 W : Nat} {Ls : Array Slot} {st : List Value} (hst : st = as.reverse ++ .ref a :: rest) (hLs : Ls.size = ml) (hd : decode bytes pc = .ok (.invokevirtual index, 3)) (hq : pc + 3 = q) (hW : (rest.map fun v => v.category).sum = W) (hf : Ry.frames + 1 ≤ R.frames) (hlc : W + (yml + 11) + Ry.locals ≤ R.locals) (hc : cells + Ry.cells = c2) (hs : slots + Ry.slots = s2) (hcR : c2 ≤ R.cells) (hsR : s2 ≤ R.slots)
    (k : ∀ v T' h', Wk Z own nm bytes ml ret R n0 p l e s m args below meth c T' c2 s2 h' → Qy v h' → Goes p e below s R n0 Q (T'.setTop (mkF m q Ls (v.toList ++ rest)))) : Goes p e below s R n0 Q (T.setTop (mkF m pc Ls st)) := by
  obtain ⟨locs, X, N, eh, hn, hx, hZ, hby, hml, hown, hnm, hret, hlk⟩ := X
  subst hby hq hc hs hst
  obtain ⟨cq, kq, qa, qb, qc⟩ := isOf hZ eh E
  obtain ⟨v, _, ⟨T', L', k', n'⟩, -, X', ⟨Lc, ⟨hF, hQy⟩, l', y', z'⟩, stp⟩ := X.virtualBack hx (y := y) (z := y) hown (mvT hZ w1) (mvT hZ w2) (notFace_of_selects (args := #[]) (mvT hZ w5)) (mvT hZ w5) (mvT hZ w6) hy (own_back (index := index) (W := W) hZ w3 w4 hM hf hlc) qa qc (g := mkF m pc Ls (as.reverse ++ .ref a :: rest)) rfl (hLs.trans hml.symm) (Steps.refl _) (argsL := as) (rest := rest) (lenOf hp hl) rfl (by show 2 * 0 + _ ≤ _; omega) hd (fun _ _ => ⟨rfl, eh, hcR, hsR⟩)
  dsimp only [Pt.U, Pt.locs, Pt.cells, Pt.slots] at X' l' y' z' stp hQy
  subst l' y' z'
  exact g_of (fun _ r => stp.trans r) (k v T' _ ⟨_, X', Fr.app N hF, rfl, hn, hx, hZ, rfl, hml, hown, hnm, hret, hlk⟩ hQy)
theorem g_callP (X : Wk Z own nm bytes ml ret R n0 p l e s m args below meth c T cells slots h) {index : Nat} {y : MethodName} {yb : ByteArray} {yml : Nat} {yret : Option FieldType} {Ry : Room} {Qy : Option Value → Heap → Prop} {ps : List FieldType} {r : Option FieldType} {a : Addr} {C : String} (E : Exa Z h a C) (as rest : List Value) (w1 : (Jvm.Cond.methodLink own index y).before a0 Z = true) (w5 : (Jvm.Cond.selects y.cls y y).before a0 Z = true) (w6 : (Jvm.Cond.instanceMethod y).before a0 Z = true) (w7 : (Jvm.Cond.privateMethod y).before a0 Z = true) (w3 : (Jvm.Cond.initialized y.cls).before a0 Z = true) (w4 : (Jvm.Cond.code y yb yml yret).before a0 Z = true) (hy : y.cls ≠ "java/lang/invoke/MethodHandle" ∧ y.cls ≠ "java/lang/invoke/VarHandle") (hM : Met l Z y yb yml yret Ry [] n0 (.ref a :: as).toArray h Qy) (hp : parseMethodDescriptor y.desc = some ⟨ps, r⟩) (hl : as.length = ps.length)
    {pc q c2 s2 W : Nat} {Ls : Array Slot} {st : List Value} (hst : st = as.reverse ++ .ref a :: rest) (hLs : Ls.size = ml) (hd : decode bytes pc = .ok (.invokevirtual index, 3)) (hq : pc + 3 = q) (hW : (rest.map fun v => v.category).sum = W) (hf : Ry.frames + 1 ≤ R.frames) (hlc : W + (yml + 11) + Ry.locals ≤ R.locals) (hc : cells + Ry.cells = c2) (hs : slots + Ry.slots = s2) (hcR : c2 ≤ R.cells) (hsR : s2 ≤ R.slots)
    (k : ∀ v T' h', Wk Z own nm bytes ml ret R n0 p l e s m args below meth c T' c2 s2 h' → Qy v h' → Goes p e below s R n0 Q (T'.setTop (mkF m q Ls (v.toList ++ rest)))) : Goes p e below s R n0 Q (T.setTop (mkF m pc Ls st)) := by
  obtain ⟨locs, X, N, eh, hn, hx, hZ, hby, hml, hown, hnm, hret, hlk⟩ := X
  subst hby hq hc hs hst
  obtain ⟨cq, q1, q2⟩ := E.cell
  obtain ⟨v, _, ⟨T', L', k', n'⟩, -, X', ⟨Lc, ⟨hF, hQy⟩, l', y', z'⟩, stp⟩ := X.privateBack hx (y := y) hown (mvT hZ w1) (mvT hZ w6) (mvT hZ w5) (Cond.privateMethod_at (mvP hZ w7 (args := #[]))) (mvT hZ w4) hy (own_back (index := index) (W := W) hZ w3 w4 hM hf hlc) (g := mkF m pc Ls (as.reverse ++ .ref a :: rest)) rfl (hLs.trans hml.symm) (Steps.refl _) (a := a) (by rw [eh]; exact q1) q2 (argsL := as) (rest := rest) (lenOf hp hl) rfl (by show 2 * 0 + _ ≤ _; omega) hd (fun _ _ => ⟨rfl, eh, hcR, hsR⟩)
  dsimp only [Pt.U, Pt.locs, Pt.cells, Pt.slots] at X' l' y' z' stp hQy
  subst l' y' z'
  exact g_of (fun _ r => stp.trans r) (k v T' _ ⟨_, X', Fr.app N hF, rfl, hn, hx, hZ, rfl, hml, hown, hnm, hret, hlk⟩ hQy)

theorem g_alenI (X : Wk Z own nm bytes ml ret R n0 p l e s m args below meth c T cells slots h) {a : Addr} {ty : FieldType} {n : Nat} {f : Nat → Int32} (A : AI Z h a ty n f) {pc q : Nat} {Ls : Array Slot} {rest : List Value} (hd : decode bytes pc = .ok (.arraylength, 1)) (hq : pc + 1 = q) (k : Goes p e below s R n0 Q (T.setTop (mkF m q Ls (.int n.toInt32 :: rest)))) : Goes p e below s R n0 Q (T.setTop (mkF m pc Ls (.ref a :: rest))) := by
  obtain ⟨locs, X, N, eh, hn, hx, hZ, hby, hml, hown, hnm, hret, hlk⟩ := X
  obtain ⟨z, cl, A, r1, r2⟩ := A
  subst hby hq r1
  exact g_of (fun t r => X.arraylength hx (by rw [eh]; exact A.1) (State.isArrayOf_alike hZ.alike A.2.1) (g := mkF m pc Ls (.ref a :: rest)) rfl rfl hd t r) k
theorem g_alenJ (X : Wk Z own nm bytes ml ret R n0 p l e s m args below meth c T cells slots h) {a : Addr} {n : Nat} {f : Nat → Int64} (A : AJ Z h a n f) {pc q : Nat} {Ls : Array Slot} {rest : List Value} (hd : decode bytes pc = .ok (.arraylength, 1)) (hq : pc + 1 = q) (k : Goes p e below s R n0 Q (T.setTop (mkF m q Ls (.int n.toInt32 :: rest)))) : Goes p e below s R n0 Q (T.setTop (mkF m pc Ls (.ref a :: rest))) := by
  obtain ⟨locs, X, N, eh, hn, hx, hZ, hby, hml, hown, hnm, hret, hlk⟩ := X
  obtain ⟨z, cl, A, r1, r2⟩ := A
  subst hby hq r1
  exact g_of (fun t r => X.arraylength hx (by rw [eh]; exact A.1) (State.isArrayOf_alike hZ.alike A.2.1) (g := mkF m pc Ls (.ref a :: rest)) rfl rfl hd t r) k
theorem g_iaload (X : Wk Z own nm bytes ml ret R n0 p l e s m args below meth c T cells slots h) {a : Addr} {n : Nat} {f : Nat → Int32} (A : AI Z h a .int n f) {j : Int32} (hj : 0 ≤ j.toInt ∧ j.toInt < n) {pc q : Nat} {Ls : Array Slot} {rest : List Value} (hd : decode bytes pc = .ok (.iaload, 1)) (hq : pc + 1 = q) (k : Goes p e below s R n0 Q (T.setTop (mkF m q Ls (.int (f j.toNatClampNeg) :: rest)))) : Goes p e below s R n0 Q (T.setTop (mkF m pc Ls (.int j :: .ref a :: rest))) := by
  obtain ⟨locs, X, N, eh, hn, hx, hZ, hby, hml, hown, hnm, hret, hlk⟩ := X
  obtain ⟨z, cl, A, r1, r2⟩ := A
  subst hby hq
  exact g_of (fun t r => X.iaload hx (j := j) (by rw [eh]; exact A.1) (State.isArrayOf_alike hZ.alike A.2.1) A.2.2 (own_ix r1 hj) (r2 _ (own_ixn hj)) (g := mkF m pc Ls (.int j :: .ref a :: rest)) rfl rfl hd t r) k
theorem g_laload (X : Wk Z own nm bytes ml ret R n0 p l e s m args below meth c T cells slots h) {a : Addr} {n : Nat} {f : Nat → Int64} (A : AJ Z h a n f) {j : Int32} (hj : 0 ≤ j.toInt ∧ j.toInt < n) {pc q : Nat} {Ls : Array Slot} {rest : List Value} (hd : decode bytes pc = .ok (.laload, 1)) (hq : pc + 1 = q) (k : Goes p e below s R n0 Q (T.setTop (mkF m q Ls (.long (f j.toNatClampNeg) :: rest)))) : Goes p e below s R n0 Q (T.setTop (mkF m pc Ls (.int j :: .ref a :: rest))) := by
  obtain ⟨locs, X, N, eh, hn, hx, hZ, hby, hml, hown, hnm, hret, hlk⟩ := X
  obtain ⟨z, cl, A, r1, r2⟩ := A
  subst hby hq
  exact g_of (fun t r => X.laload hx (j := j) (by rw [eh]; exact A.1) (State.isArrayOf_alike hZ.alike A.2.1) A.2.2 (own_ix r1 hj) (r2 _ (own_ixn hj)) (g := mkF m pc Ls (.int j :: .ref a :: rest)) rfl rfl hd t r) k
theorem g_baload (X : Wk Z own nm bytes ml ret R n0 p l e s m args below meth c T cells slots h) {a : Addr} {n : Nat} {f : Nat → Int32} (A : AI Z h a .byte n f) {j : Int32} (hj : 0 ≤ j.toInt ∧ j.toInt < n) {pc q : Nat} {Ls : Array Slot} {rest : List Value} (hd : decode bytes pc = .ok (.baload, 1)) (hq : pc + 1 = q) (k : Goes p e below s R n0 Q (T.setTop (mkF m q Ls (.int (f j.toNatClampNeg) :: rest)))) : Goes p e below s R n0 Q (T.setTop (mkF m pc Ls (.int j :: .ref a :: rest))) := by
  obtain ⟨locs, X, N, eh, hn, hx, hZ, hby, hml, hown, hnm, hret, hlk⟩ := X
  obtain ⟨z, cl, A, r1, r2⟩ := A
  subst hby hq
  exact g_of (fun t r => X.baloadBytes hx (j := j) (by rw [eh]; exact A.1) (State.isArrayOf_alike hZ.alike A.2.1) A.2.2 (own_ix r1 hj) (r2 _ (own_ixn hj)) (g := mkF m pc Ls (.int j :: .ref a :: rest)) rfl rfl hd t r) k
theorem g_zaload (X : Wk Z own nm bytes ml ret R n0 p l e s m args below meth c T cells slots h) {a : Addr} {n : Nat} {f : Nat → Int32} (A : AI Z h a .boolean n f) {j : Int32} (hj : 0 ≤ j.toInt ∧ j.toInt < n) {pc q : Nat} {Ls : Array Slot} {rest : List Value} (hd : decode bytes pc = .ok (.baload, 1)) (hq : pc + 1 = q) (k : Goes p e below s R n0 Q (T.setTop (mkF m q Ls (.int (f j.toNatClampNeg) :: rest)))) : Goes p e below s R n0 Q (T.setTop (mkF m pc Ls (.int j :: .ref a :: rest))) := by
  obtain ⟨locs, X, N, eh, hn, hx, hZ, hby, hml, hown, hnm, hret, hlk⟩ := X
  obtain ⟨z, cl, A, r1, r2⟩ := A
  subst hby hq
  exact g_of (fun t r => X.baloadBooleans hx (j := j) (by rw [eh]; exact A.1) (State.isArrayOf_alike hZ.alike A.2.1) A.2.2 (own_ix r1 hj) (r2 _ (own_ixn hj)) (g := mkF m pc Ls (.int j :: .ref a :: rest)) rfl rfl hd t r) k
theorem g_iastore (X : Wk Z own nm bytes ml ret R n0 p l e s m args below meth c T cells slots h) {a : Addr} {n : Nat} {f : Nat → Int32} (A : AI Z h a .int n f) {j : Int32} {x : Int32} (hj : 0 ≤ j.toInt ∧ j.toInt < n) (ga : n0 ≤ a) {pc q : Nat} {Ls : Array Slot} {rest : List Value} (hd : decode bytes pc = .ok (.iastore, 1)) (hq : pc + 1 = q) (k : ∀ T' h', Wk Z own nm bytes ml ret R n0 p l e s m args below meth c T' cells slots h' → Wr h h' a j.toNatClampNeg (.int x) → Goes p e below s R n0 Q (T'.setTop (mkF m q Ls rest))) : Goes p e below s R n0 Q (T.setTop (mkF m pc Ls (.int x :: .int j :: .ref a :: rest))) := by
  obtain ⟨locs, X, N, eh, hn, hx, hZ, hby, hml, hown, hnm, hret, hlk⟩ := X
  obtain ⟨z, cl, A, r1, r2⟩ := A
  subst hby hq
  obtain ⟨T', h', X', e', W', st⟩ := stI X hx hZ eh A (j := j) (own_ix r1 hj) (g := mkF m pc Ls (.int x :: .int j :: .ref a :: rest)) rfl rfl hd
  exact g_of st (k T' h' ⟨_, X', Fr.snoc X' N ga, e', hn, hx, hZ, rfl, hml, hown, hnm, hret, hlk⟩ W')
theorem g_lastore (X : Wk Z own nm bytes ml ret R n0 p l e s m args below meth c T cells slots h) {a : Addr} {n : Nat} {f : Nat → Int64} (A : AJ Z h a n f) {j : Int32} {x : Int64} (hj : 0 ≤ j.toInt ∧ j.toInt < n) (ga : n0 ≤ a) {pc q : Nat} {Ls : Array Slot} {rest : List Value} (hd : decode bytes pc = .ok (.lastore, 1)) (hq : pc + 1 = q) (k : ∀ T' h', Wk Z own nm bytes ml ret R n0 p l e s m args below meth c T' cells slots h' → Wr h h' a j.toNatClampNeg (.long x) → Goes p e below s R n0 Q (T'.setTop (mkF m q Ls rest))) : Goes p e below s R n0 Q (T.setTop (mkF m pc Ls (.long x :: .int j :: .ref a :: rest))) := by
  obtain ⟨locs, X, N, eh, hn, hx, hZ, hby, hml, hown, hnm, hret, hlk⟩ := X
  obtain ⟨z, cl, A, r1, r2⟩ := A
  subst hby hq
  obtain ⟨T', h', X', e', W', st⟩ := stJ X hx hZ eh A (j := j) (own_ix r1 hj) (g := mkF m pc Ls (.long x :: .int j :: .ref a :: rest)) rfl rfl hd
  exact g_of st (k T' h' ⟨_, X', Fr.snoc X' N ga, e', hn, hx, hZ, rfl, hml, hown, hnm, hret, hlk⟩ W')
theorem g_bastore (X : Wk Z own nm bytes ml ret R n0 p l e s m args below meth c T cells slots h) {a : Addr} {n : Nat} {f : Nat → Int32} (A : AI Z h a .byte n f) {j : Int32} {x : Int32} (hj : 0 ≤ j.toInt ∧ j.toInt < n) (ga : n0 ≤ a) {pc q : Nat} {Ls : Array Slot} {rest : List Value} (hd : decode bytes pc = .ok (.bastore, 1)) (hq : pc + 1 = q) (k : ∀ T' h', Wk Z own nm bytes ml ret R n0 p l e s m args below meth c T' cells slots h' → Wr h h' a j.toNatClampNeg (.int (nar .byte x)) → Goes p e below s R n0 Q (T'.setTop (mkF m q Ls rest))) : Goes p e below s R n0 Q (T.setTop (mkF m pc Ls (.int x :: .int j :: .ref a :: rest))) := by
  obtain ⟨locs, X, N, eh, hn, hx, hZ, hby, hml, hown, hnm, hret, hlk⟩ := X
  obtain ⟨z, cl, A, r1, r2⟩ := A
  subst hby hq
  obtain ⟨T', h', X', e', W', st⟩ := stB X hx hZ eh A (j := j) (own_ix r1 hj) (g := mkF m pc Ls (.int x :: .int j :: .ref a :: rest)) rfl rfl hd
  exact g_of st (k T' h' ⟨_, X', Fr.snoc X' N ga, e', hn, hx, hZ, rfl, hml, hown, hnm, hret, hlk⟩ W')
theorem g_zastore (X : Wk Z own nm bytes ml ret R n0 p l e s m args below meth c T cells slots h) {a : Addr} {n : Nat} {f : Nat → Int32} (A : AI Z h a .boolean n f) {j : Int32} {x : Int32} (hj : 0 ≤ j.toInt ∧ j.toInt < n) (ga : n0 ≤ a) {pc q : Nat} {Ls : Array Slot} {rest : List Value} (hd : decode bytes pc = .ok (.bastore, 1)) (hq : pc + 1 = q) (hz : x = 0 ∨ x = 1) (k : ∀ T' h', Wk Z own nm bytes ml ret R n0 p l e s m args below meth c T' cells slots h' → Wr h h' a j.toNatClampNeg (.int x) → Goes p e below s R n0 Q (T'.setTop (mkF m q Ls rest))) : Goes p e below s R n0 Q (T.setTop (mkF m pc Ls (.int x :: .int j :: .ref a :: rest))) := by
  obtain ⟨locs, X, N, eh, hn, hx, hZ, hby, hml, hown, hnm, hret, hlk⟩ := X
  obtain ⟨z, cl, A, r1, r2⟩ := A
  subst hby hq
  obtain ⟨T', h', X', e', W', st⟩ := stZ X hx hZ eh A (j := j) (own_ix r1 hj) (g := mkF m pc Ls (.int x :: .int j :: .ref a :: rest)) rfl rfl hd
  rw [own_narZ' hz] at W'
  exact g_of st (k T' h' ⟨_, X', Fr.snoc X' N ga, e', hn, hx, hZ, rfl, hml, hown, hnm, hret, hlk⟩ W')
theorem g_newarrI (X : Wk Z own nm bytes ml ret R n0 p l e s m args below meth c T cells slots h) {aty : ArrayType} (ht : defaultValue (newarray.typeOf aty) = .int 0) (w : (Jvm.Cond.arrayClass (newarray.typeOf aty)).before a0 Z = true) {n : Int32} {pc q c2 s2 cap : Nat} {Ls : Array Slot} {rest : List Value} (hd : decode bytes pc = .ok (.newarray aty, 2)) (hq : pc + 2 = q) (h0n : ¬ n < 0) (hcap : n.toNatClampNeg ≤ cap) (hbig : cap * 8 ≤ 536870912) (hc : cells + 1 = c2) (hs : slots + cap = s2) (hcR : c2 ≤ R.cells) (hsR : s2 ≤ R.slots)
    (k : ∀ T' h' b, Wk Z own nm bytes ml ret R n0 p l e s m args below meth c T' c2 s2 h' → b = h.size → n0 ≤ b → Ext h h' → AI Z h' b (newarray.typeOf aty) n.toNatClampNeg (fun _ => 0) → Goes p e below s R n0 Q (T'.setTop (mkF m q Ls (.ref b :: rest)))) : Goes p e below s R n0 Q (T.setTop (mkF m pc Ls (.int n :: rest))) := by
  obtain ⟨locs, X, N, eh, hn, hx, hZ, hby, hml, hown, hnm, hret, hlk⟩ := X
  subst hby hq hc hs
  obtain ⟨T', h', cA, X', e', E', A', stp⟩ := newP X hx hZ (aty := aty) w eh (g := mkF m pc Ls (.int n :: rest)) rfl hd rfl h0n hcap hbig hcR hsR
  refine g_of stp (k T' h' _ ⟨locs, X', N, e', hn, hx, hZ, rfl, hml, hown, hnm, hret, hlk⟩ rfl (Wk.size ⟨locs, X, N, eh, hn, hx, hZ, rfl, hml, hown, hnm, hret, hlk⟩) E' ⟨(back32 h0n).2, _, A', sz_new _ _ _, fun j hj => ?_⟩)
  simp only [newA, Array.getElem?_replicate, hj, if_true]
  rw [ht]
theorem g_newarrJ (X : Wk Z own nm bytes ml ret R n0 p l e s m args below meth c T cells slots h)  (w : (Jvm.Cond.arrayClass .long).before a0 Z = true) {n : Int32} {pc q c2 s2 cap : Nat} {Ls : Array Slot} {rest : List Value} (hd : decode bytes pc = .ok (.newarray .long, 2)) (hq : pc + 2 = q) (h0n : ¬ n < 0) (hcap : n.toNatClampNeg ≤ cap) (hbig : cap * 8 ≤ 536870912) (hc : cells + 1 = c2) (hs : slots + cap = s2) (hcR : c2 ≤ R.cells) (hsR : s2 ≤ R.slots)
    (k : ∀ T' h' b, Wk Z own nm bytes ml ret R n0 p l e s m args below meth c T' c2 s2 h' → b = h.size → n0 ≤ b → Ext h h' → AJ Z h' b n.toNatClampNeg (fun _ => 0) → Goes p e below s R n0 Q (T'.setTop (mkF m q Ls (.ref b :: rest)))) : Goes p e below s R n0 Q (T.setTop (mkF m pc Ls (.int n :: rest))) := by
  obtain ⟨locs, X, N, eh, hn, hx, hZ, hby, hml, hown, hnm, hret, hlk⟩ := X
  subst hby hq hc hs
  obtain ⟨T', h', cA, X', e', E', A', stp⟩ := newP X hx hZ (aty := .long) w eh (g := mkF m pc Ls (.int n :: rest)) rfl hd rfl h0n hcap hbig hcR hsR
  refine g_of stp (k T' h' _ ⟨locs, X', N, e', hn, hx, hZ, rfl, hml, hown, hnm, hret, hlk⟩ rfl (Wk.size ⟨locs, X, N, eh, hn, hx, hZ, rfl, hml, hown, hnm, hret, hlk⟩) E' ⟨(back32 h0n).2, _, A', sz_new _ _ _, fun j hj => ?_⟩)
  simp only [newA, Array.getElem?_replicate, hj, if_true]
  rfl
theorem g_jT0 (X : Wk Z own nm bytes ml ret R n0 p l e s m args below meth c T cells slots h) {J : Nat} {g : JFrame} (L : Array Slot) (S : List Value) (rest : ∀ T', Wk Z own nm bytes ml ret R n0 p l e s m args below meth c T' cells slots h → Goes p e below s R n0 Q (T'.setTop (mkF m J (L) (S)))) (here : (∀ T', Wk Z own nm bytes ml ret R n0 p l e s m args below meth c T' cells slots h → Goes p e below s R n0 Q (T'.setTop (mkF m J (L) (S)))) → Goes p e below s R n0 Q (T.setTop g)) : Goes p e below s R n0 Q (T.setTop g) := here rest
theorem g_jT1 {α : Type} (X : Wk Z own nm bytes ml ret R n0 p l e s m args below meth c T cells slots h) {J : Nat} {g : JFrame} (P : α → Prop) (L : α → Array Slot) (S : α → List Value) (rest : ∀ T', Wk Z own nm bytes ml ret R n0 p l e s m args below meth c T' cells slots h → ∀ a, P a → Goes p e below s R n0 Q (T'.setTop (mkF m J (L a) (S a)))) (here : (∀ T', Wk Z own nm bytes ml ret R n0 p l e s m args below meth c T' cells slots h → ∀ a, P a → Goes p e below s R n0 Q (T'.setTop (mkF m J (L a) (S a)))) → Goes p e below s R n0 Q (T.setTop g)) : Goes p e below s R n0 Q (T.setTop g) := here rest
theorem g_jT2 {α β : Type} (X : Wk Z own nm bytes ml ret R n0 p l e s m args below meth c T cells slots h) {J : Nat} {g : JFrame} (P : α → β → Prop) (L : α → β → Array Slot) (S : α → β → List Value) (rest : ∀ T', Wk Z own nm bytes ml ret R n0 p l e s m args below meth c T' cells slots h → ∀ a b, P a b → Goes p e below s R n0 Q (T'.setTop (mkF m J (L a b) (S a b)))) (here : (∀ T', Wk Z own nm bytes ml ret R n0 p l e s m args below meth c T' cells slots h → ∀ a b, P a b → Goes p e below s R n0 Q (T'.setTop (mkF m J (L a b) (S a b)))) → Goes p e below s R n0 Q (T.setTop g)) : Goes p e below s R n0 Q (T.setTop g) := here rest
theorem g_jT3 {α β γ : Type} (X : Wk Z own nm bytes ml ret R n0 p l e s m args below meth c T cells slots h) {J : Nat} {g : JFrame} (P : α → β → γ → Prop) (L : α → β → γ → Array Slot) (S : α → β → γ → List Value) (rest : ∀ T', Wk Z own nm bytes ml ret R n0 p l e s m args below meth c T' cells slots h → ∀ a b c', P a b c' → Goes p e below s R n0 Q (T'.setTop (mkF m J (L a b c') (S a b c')))) (here : (∀ T', Wk Z own nm bytes ml ret R n0 p l e s m args below meth c T' cells slots h → ∀ a b c', P a b c' → Goes p e below s R n0 Q (T'.setTop (mkF m J (L a b c') (S a b c')))) → Goes p e below s R n0 Q (T.setTop g)) : Goes p e below s R n0 Q (T.setTop g) := here rest
theorem g_jT4 {α β γ δ : Type} (X : Wk Z own nm bytes ml ret R n0 p l e s m args below meth c T cells slots h) {J : Nat} {g : JFrame} (P : α → β → γ → δ → Prop) (L : α → β → γ → δ → Array Slot) (S : α → β → γ → δ → List Value) (rest : ∀ T', Wk Z own nm bytes ml ret R n0 p l e s m args below meth c T' cells slots h → ∀ a b c' d, P a b c' d → Goes p e below s R n0 Q (T'.setTop (mkF m J (L a b c' d) (S a b c' d)))) (here : (∀ T', Wk Z own nm bytes ml ret R n0 p l e s m args below meth c T' cells slots h → ∀ a b c' d, P a b c' d → Goes p e below s R n0 Q (T'.setTop (mkF m J (L a b c' d) (S a b c' d)))) → Goes p e below s R n0 Q (T.setTop g)) : Goes p e below s R n0 Q (T.setTop g) := here rest
theorem g_loop1 {α : Type} (X : Wk Z own nm bytes ml ret R n0 p l e s m args below meth c T cells slots h) {H : Nat} (ms : α → Nat) (I : α → Heap → Prop) (L : α → Array Slot) (S : α → List Value) (a : α) (i0 : I a h) (turn : ∀ a T' h', Wk Z own nm bytes ml ret R n0 p l e s m args below meth c T' cells slots h' → I a h' → (∀ a' T'' h'', Wk Z own nm bytes ml ret R n0 p l e s m args below meth c T'' cells slots h'' → I a' h'' → ms a' < ms a → Goes p e below s R n0 Q (T''.setTop (mkF m H (L a') (S a')))) → Goes p e below s R n0 Q (T'.setTop (mkF m H (L a) (S a)))) : Goes p e below s R n0 Q (T.setTop (mkF m H (L a) (S a))) := by
  induction hk : ms a using Nat.strongRecOn generalizing a T h with
  | _ k ih => exact turn a T h X i0 (fun a' T2 h2 X2 i2 lt => ih _ (hk ▸ lt) X2 a' i2 rfl)
theorem g_loop2 {α β : Type} (X : Wk Z own nm bytes ml ret R n0 p l e s m args below meth c T cells slots h) {H : Nat} (ms : α → β → Nat) (I : α → β → Heap → Prop) (L : α → β → Array Slot) (S : α → β → List Value) (a : α) (b : β) (i0 : I a b h) (turn : ∀ a b T' h', Wk Z own nm bytes ml ret R n0 p l e s m args below meth c T' cells slots h' → I a b h' → (∀ a' b' T'' h'', Wk Z own nm bytes ml ret R n0 p l e s m args below meth c T'' cells slots h'' → I a' b' h'' → ms a' b' < ms a b → Goes p e below s R n0 Q (T''.setTop (mkF m H (L a' b') (S a' b')))) → Goes p e below s R n0 Q (T'.setTop (mkF m H (L a b) (S a b)))) : Goes p e below s R n0 Q (T.setTop (mkF m H (L a b) (S a b))) := by
  induction hk : ms a b using Nat.strongRecOn generalizing a b T h with
  | _ k ih => exact turn a b T h X i0 (fun a' b' T2 h2 X2 i2 lt => ih _ (hk ▸ lt) X2 a' b' i2 rfl)
theorem g_loop3 {α β γ : Type} (X : Wk Z own nm bytes ml ret R n0 p l e s m args below meth c T cells slots h) {H : Nat} (ms : α → β → γ → Nat) (I : α → β → γ → Heap → Prop) (L : α → β → γ → Array Slot) (S : α → β → γ → List Value) (a : α) (b : β) (u : γ) (i0 : I a b u h) (turn : ∀ a b u T' h', Wk Z own nm bytes ml ret R n0 p l e s m args below meth c T' cells slots h' → I a b u h' → (∀ a' b' u' T'' h'', Wk Z own nm bytes ml ret R n0 p l e s m args below meth c T'' cells slots h'' → I a' b' u' h'' → ms a' b' u' < ms a b u → Goes p e below s R n0 Q (T''.setTop (mkF m H (L a' b' u') (S a' b' u')))) → Goes p e below s R n0 Q (T'.setTop (mkF m H (L a b u) (S a b u)))) : Goes p e below s R n0 Q (T.setTop (mkF m H (L a b u) (S a b u))) := by
  induction hk : ms a b u using Nat.strongRecOn generalizing a b u T h with
  | _ k ih => exact turn a b u T h X i0 (fun a' b' u' T2 h2 X2 i2 lt => ih _ (hk ▸ lt) X2 a' b' u' i2 rfl)
theorem g_loop4 {α β γ δ : Type} (X : Wk Z own nm bytes ml ret R n0 p l e s m args below meth c T cells slots h) {H : Nat} (ms : α → β → γ → δ → Nat) (I : α → β → γ → δ → Heap → Prop) (L : α → β → γ → δ → Array Slot) (S : α → β → γ → δ → List Value) (a : α) (b : β) (u : γ) (w : δ) (i0 : I a b u w h) (turn : ∀ a b u w T' h', Wk Z own nm bytes ml ret R n0 p l e s m args below meth c T' cells slots h' → I a b u w h' → (∀ a' b' u' w' T'' h'', Wk Z own nm bytes ml ret R n0 p l e s m args below meth c T'' cells slots h'' → I a' b' u' w' h'' → ms a' b' u' w' < ms a b u w → Goes p e below s R n0 Q (T''.setTop (mkF m H (L a' b' u' w') (S a' b' u' w')))) → Goes p e below s R n0 Q (T'.setTop (mkF m H (L a b u w) (S a b u w)))) : Goes p e below s R n0 Q (T.setTop (mkF m H (L a b u w) (S a b u w))) := by
  induction hk : ms a b u w using Nat.strongRecOn generalizing a b u w T h with
  | _ k ih => exact turn a b u w T h X i0 (fun a' b' u' w' T2 h2 X2 i2 lt => ih _ (hk ▸ lt) X2 a' b' u' w' i2 rfl)
theorem g_loop5 {α β γ δ ε : Type} (X : Wk Z own nm bytes ml ret R n0 p l e s m args below meth c T cells slots h) {H : Nat} (ms : α → β → γ → δ → ε → Nat) (I : α → β → γ → δ → ε → Heap → Prop) (L : α → β → γ → δ → ε → Array Slot) (S : α → β → γ → δ → ε → List Value) (a : α) (b : β) (u : γ) (w : δ) (z : ε) (i0 : I a b u w z h) (turn : ∀ a b u w z T' h', Wk Z own nm bytes ml ret R n0 p l e s m args below meth c T' cells slots h' → I a b u w z h' → (∀ a' b' u' w' z' T'' h'', Wk Z own nm bytes ml ret R n0 p l e s m args below meth c T'' cells slots h'' → I a' b' u' w' z' h'' → ms a' b' u' w' z' < ms a b u w z → Goes p e below s R n0 Q (T''.setTop (mkF m H (L a' b' u' w' z') (S a' b' u' w' z')))) → Goes p e below s R n0 Q (T'.setTop (mkF m H (L a b u w z) (S a b u w z)))) : Goes p e below s R n0 Q (T.setTop (mkF m H (L a b u w z) (S a b u w z))) := by
  induction hk : ms a b u w z using Nat.strongRecOn generalizing a b u w z T h with
  | _ k ih => exact turn a b u w z T h X i0 (fun a' b' u' w' z' T2 h2 X2 i2 lt => ih _ (hk ▸ lt) X2 a' b' u' w' z' i2 rfl)
end Walk
end Jvm.Own
namespace Jvm.Pilot.@@N@@
open Jvm Jvm.ClassFile Sem Op Lib Jvm.Free Jvm.Stand Jvm.LawKit Jvm.RoadKit Bundle Jvm.Own Jvm.Pilot.@@N@@.Jvm.D

theorem tw0 {Z : State} {a0 : Array Value} (hw : ∀ d ∈ tables_1, d.before a0 Z = true) : ((Jvm.Cond.constantLong "com/example/holdfast/holdfast/GrantEndingByPinLaw" (7 : Nat) (3 : Int64))).before a0 Z = true := hw _ (List.mem_of_getElem? (i := 0) rfl)
theorem tw1 {Z : State} {a0 : Array Value} (hw : ∀ d ∈ tables_1, d.before a0 Z = true) : ((Jvm.Cond.constantLong "com/example/holdfast/holdfast/GrantEndingByPinLaw" (9 : Nat) (2 : Int64))).before a0 Z = true := hw _ (List.mem_of_getElem? (i := 1) rfl)
theorem tw2 {Z : State} {a0 : Array Value} (hw : ∀ d ∈ tables_1, d.before a0 Z = true) : ((Jvm.Cond.classLink "com/example/holdfast/holdfast/GrantEndingByPinLaw" (11 : Nat) "com/example/holdfast/holdfast/Grant")).before a0 Z = true := hw _ (List.mem_of_getElem? (i := 2) rfl)
theorem tw3 {Z : State} {a0 : Array Value} (hw : ∀ d ∈ tables_1, d.before a0 Z = true) : ((Jvm.Cond.instantiable "com/example/holdfast/holdfast/Grant" (7 : Nat))).before a0 Z = true := hw _ (List.mem_of_getElem? (i := 3) rfl)
theorem tw4 {Z : State} {a0 : Array Value} (hw : ∀ d ∈ tables_1, d.before a0 Z = true) : ((Jvm.Cond.initialized "com/example/holdfast/holdfast/Grant")).before a0 Z = true := hw _ (List.mem_of_getElem? (i := 4) rfl)
theorem tw5 {Z : State} {a0 : Array Value} (hw : ∀ d ∈ tables_1, d.before a0 Z = true) : ((Jvm.Cond.methodLink "com/example/holdfast/holdfast/GrantEndingByPinLaw" (13 : Nat) ({ cls := "com/example/holdfast/holdfast/Grant", name := "<init>", desc := "(JJJJJIZ)V" } : Jvm.MethodName))).before a0 Z = true := hw _ (List.mem_of_getElem? (i := 5) rfl)
theorem tw6 {Z : State} {a0 : Array Value} (hw : ∀ d ∈ tables_1, d.before a0 Z = true) : ((Jvm.Cond.instanceMethod ({ cls := "com/example/holdfast/holdfast/Grant", name := "<init>", desc := "(JJJJJIZ)V" } : Jvm.MethodName))).before a0 Z = true := hw _ (List.mem_of_getElem? (i := 6) rfl)
theorem tw7 {Z : State} {a0 : Array Value} (hw : ∀ d ∈ tables_1, d.before a0 Z = true) : ((Jvm.Cond.code ({ cls := "com/example/holdfast/holdfast/Grant", name := "<init>", desc := "(JJJJJIZ)V" } : Jvm.MethodName) prog_2_method_1_code (13 : Nat) (Option.none : Option Jvm.ClassFile.FieldType))).before a0 Z = true := hw _ (List.mem_of_getElem? (i := 7) rfl)
theorem tw8 {Z : State} {a0 : Array Value} (hw : ∀ d ∈ tables_1, d.before a0 Z = true) : ((Jvm.Cond.methodLink "com/example/holdfast/holdfast/Grant" (1 : Nat) ({ cls := "java/lang/Record", name := "<init>", desc := "()V" } : Jvm.MethodName))).before a0 Z = true := hw _ (List.mem_of_getElem? (i := 8) rfl)
theorem tw9 {Z : State} {a0 : Array Value} (hw : ∀ d ∈ tables_1, d.before a0 Z = true) : ((Jvm.Cond.instanceMethod ({ cls := "java/lang/Record", name := "<init>", desc := "()V" } : Jvm.MethodName))).before a0 Z = true := hw _ (List.mem_of_getElem? (i := 9) rfl)
theorem tw11 {Z : State} {a0 : Array Value} (hw : ∀ d ∈ tables_1, d.before a0 Z = true) : ((Jvm.Cond.initialized "java/lang/Record")).before a0 Z = true := hw _ (List.mem_of_getElem? (i := 11) rfl)
theorem tw12 {Z : State} {a0 : Array Value} (hw : ∀ d ∈ tables_1, d.before a0 Z = true) : ((Jvm.Cond.code ({ cls := "java/lang/Record", name := "<init>", desc := "()V" } : Jvm.MethodName) jdk_30_method_1_code (1 : Nat) (Option.none : Option Jvm.ClassFile.FieldType))).before a0 Z = true := hw _ (List.mem_of_getElem? (i := 12) rfl)
theorem tw13 {Z : State} {a0 : Array Value} (hw : ∀ d ∈ tables_1, d.before a0 Z = true) : ((Jvm.Cond.methodLink "java/lang/Record" (1 : Nat) ({ cls := "java/lang/Object", name := "<init>", desc := "()V" } : Jvm.MethodName))).before a0 Z = true := hw _ (List.mem_of_getElem? (i := 13) rfl)
theorem tw14 {Z : State} {a0 : Array Value} (hw : ∀ d ∈ tables_1, d.before a0 Z = true) : ((Jvm.Cond.instanceMethod ({ cls := "java/lang/Object", name := "<init>", desc := "()V" } : Jvm.MethodName))).before a0 Z = true := hw _ (List.mem_of_getElem? (i := 14) rfl)
theorem tw15 {Z : State} {a0 : Array Value} (hw : ∀ d ∈ tables_1, d.before a0 Z = true) : ((Jvm.Cond.code ({ cls := "java/lang/Object", name := "<init>", desc := "()V" } : Jvm.MethodName) object_method_1_code (1 : Nat) (Option.none : Option Jvm.ClassFile.FieldType))).before a0 Z = true := hw _ (List.mem_of_getElem? (i := 15) rfl)
theorem tw16 {Z : State} {a0 : Array Value} (hw : ∀ d ∈ tables_1, d.before a0 Z = true) : ((Jvm.Cond.fieldLink "com/example/holdfast/holdfast/Grant" (7 : Nat) "com/example/holdfast/holdfast/Grant" "threadId" "J")).before a0 Z = true := hw _ (List.mem_of_getElem? (i := 16) rfl)
theorem tw17 {Z : State} {a0 : Array Value} (hw : ∀ d ∈ tables_1, d.before a0 Z = true) : ((Jvm.Cond.laysFinal "com/example/holdfast/holdfast/Grant" "com/example/holdfast/holdfast/Grant" "threadId" "J")).before a0 Z = true := hw _ (List.mem_of_getElem? (i := 17) rfl)
theorem tw18 {Z : State} {a0 : Array Value} (hw : ∀ d ∈ tables_1, d.before a0 Z = true) : ((Jvm.Cond.fieldLink "com/example/holdfast/holdfast/Grant" (13 : Nat) "com/example/holdfast/holdfast/Grant" "token" "J")).before a0 Z = true := hw _ (List.mem_of_getElem? (i := 18) rfl)
theorem tw19 {Z : State} {a0 : Array Value} (hw : ∀ d ∈ tables_1, d.before a0 Z = true) : ((Jvm.Cond.laysFinal "com/example/holdfast/holdfast/Grant" "com/example/holdfast/holdfast/Grant" "token" "J")).before a0 Z = true := hw _ (List.mem_of_getElem? (i := 19) rfl)
theorem tw20 {Z : State} {a0 : Array Value} (hw : ∀ d ∈ tables_1, d.before a0 Z = true) : ((Jvm.Cond.fieldLink "com/example/holdfast/holdfast/Grant" (16 : Nat) "com/example/holdfast/holdfast/Grant" "servers" "J")).before a0 Z = true := hw _ (List.mem_of_getElem? (i := 20) rfl)
theorem tw21 {Z : State} {a0 : Array Value} (hw : ∀ d ∈ tables_1, d.before a0 Z = true) : ((Jvm.Cond.laysFinal "com/example/holdfast/holdfast/Grant" "com/example/holdfast/holdfast/Grant" "servers" "J")).before a0 Z = true := hw _ (List.mem_of_getElem? (i := 21) rfl)
theorem tw22 {Z : State} {a0 : Array Value} (hw : ∀ d ∈ tables_1, d.before a0 Z = true) : ((Jvm.Cond.fieldLink "com/example/holdfast/holdfast/Grant" (19 : Nat) "com/example/holdfast/holdfast/Grant" "requestedAtNanos" "J")).before a0 Z = true := hw _ (List.mem_of_getElem? (i := 22) rfl)
theorem tw23 {Z : State} {a0 : Array Value} (hw : ∀ d ∈ tables_1, d.before a0 Z = true) : ((Jvm.Cond.laysFinal "com/example/holdfast/holdfast/Grant" "com/example/holdfast/holdfast/Grant" "requestedAtNanos" "J")).before a0 Z = true := hw _ (List.mem_of_getElem? (i := 23) rfl)
theorem tw24 {Z : State} {a0 : Array Value} (hw : ∀ d ∈ tables_1, d.before a0 Z = true) : ((Jvm.Cond.fieldLink "com/example/holdfast/holdfast/Grant" (22 : Nat) "com/example/holdfast/holdfast/Grant" "leaseNanos" "J")).before a0 Z = true := hw _ (List.mem_of_getElem? (i := 24) rfl)
theorem tw25 {Z : State} {a0 : Array Value} (hw : ∀ d ∈ tables_1, d.before a0 Z = true) : ((Jvm.Cond.laysFinal "com/example/holdfast/holdfast/Grant" "com/example/holdfast/holdfast/Grant" "leaseNanos" "J")).before a0 Z = true := hw _ (List.mem_of_getElem? (i := 25) rfl)
theorem tw26 {Z : State} {a0 : Array Value} (hw : ∀ d ∈ tables_1, d.before a0 Z = true) : ((Jvm.Cond.fieldLink "com/example/holdfast/holdfast/Grant" (25 : Nat) "com/example/holdfast/holdfast/Grant" "holds" "I")).before a0 Z = true := hw _ (List.mem_of_getElem? (i := 26) rfl)
theorem tw27 {Z : State} {a0 : Array Value} (hw : ∀ d ∈ tables_1, d.before a0 Z = true) : ((Jvm.Cond.laysFinal "com/example/holdfast/holdfast/Grant" "com/example/holdfast/holdfast/Grant" "holds" "I")).before a0 Z = true := hw _ (List.mem_of_getElem? (i := 27) rfl)
theorem tw28 {Z : State} {a0 : Array Value} (hw : ∀ d ∈ tables_1, d.before a0 Z = true) : ((Jvm.Cond.fieldLink "com/example/holdfast/holdfast/Grant" (29 : Nat) "com/example/holdfast/holdfast/Grant" "renewed" "Z")).before a0 Z = true := hw _ (List.mem_of_getElem? (i := 28) rfl)
theorem tw29 {Z : State} {a0 : Array Value} (hw : ∀ d ∈ tables_1, d.before a0 Z = true) : ((Jvm.Cond.laysFinal "com/example/holdfast/holdfast/Grant" "com/example/holdfast/holdfast/Grant" "renewed" "Z")).before a0 Z = true := hw _ (List.mem_of_getElem? (i := 29) rfl)
theorem tw30 {Z : State} {a0 : Array Value} (hw : ∀ d ∈ tables_1, d.before a0 Z = true) : ((Jvm.Cond.methodLink "com/example/holdfast/holdfast/GrantEndingByPinLaw" (16 : Nat) ({ cls := "com/example/holdfast/holdfast/Grant", name := "endingBy", desc := "(JJ)Lcom/example/holdfast/holdfast/Grant;" } : Jvm.MethodName))).before a0 Z = true := hw _ (List.mem_of_getElem? (i := 30) rfl)
theorem tw31 {Z : State} {a0 : Array Value} (hw : ∀ d ∈ tables_1, d.before a0 Z = true) : ((Jvm.Cond.declares ({ cls := "com/example/holdfast/holdfast/Grant", name := "endingBy", desc := "(JJ)Lcom/example/holdfast/holdfast/Grant;" } : Jvm.MethodName))).before a0 Z = true := hw _ (List.mem_of_getElem? (i := 31) rfl)
theorem tw32 {Z : State} {a0 : Array Value} (hw : ∀ d ∈ tables_1, d.before a0 Z = true) : ((Jvm.Cond.instanceMethod ({ cls := "com/example/holdfast/holdfast/Grant", name := "endingBy", desc := "(JJ)Lcom/example/holdfast/holdfast/Grant;" } : Jvm.MethodName))).before a0 Z = true := hw _ (List.mem_of_getElem? (i := 32) rfl)
theorem tw33 {Z : State} {a0 : Array Value} (hw : ∀ d ∈ tables_1, d.before a0 Z = true) : ((Jvm.Cond.selects "com/example/holdfast/holdfast/Grant" ({ cls := "com/example/holdfast/holdfast/Grant", name := "endingBy", desc := "(JJ)Lcom/example/holdfast/holdfast/Grant;" } : Jvm.MethodName) ({ cls := "com/example/holdfast/holdfast/Grant", name := "endingBy", desc := "(JJ)Lcom/example/holdfast/holdfast/Grant;" } : Jvm.MethodName))).before a0 Z = true := hw _ (List.mem_of_getElem? (i := 33) rfl)
theorem tw34 {Z : State} {a0 : Array Value} (hw : ∀ d ∈ tables_1, d.before a0 Z = true) : ((Jvm.Cond.code ({ cls := "com/example/holdfast/holdfast/Grant", name := "endingBy", desc := "(JJ)Lcom/example/holdfast/holdfast/Grant;" } : Jvm.MethodName) prog_2_method_7_code (5 : Nat) (Option.some (Jvm.ClassFile.FieldType.object "com/example/holdfast/holdfast/Grant")))).before a0 Z = true := hw _ (List.mem_of_getElem? (i := 34) rfl)
theorem tw35 {Z : State} {a0 : Array Value} (hw : ∀ d ∈ tables_1, d.before a0 Z = true) : ((Jvm.Cond.methodLink "com/example/holdfast/holdfast/GrantEndingByPinLaw" (20 : Nat) ({ cls := "com/example/holdfast/holdfast/Grant", name := "threadId", desc := "()J" } : Jvm.MethodName))).before a0 Z = true := hw _ (List.mem_of_getElem? (i := 35) rfl)
theorem tw36 {Z : State} {a0 : Array Value} (hw : ∀ d ∈ tables_1, d.before a0 Z = true) : ((Jvm.Cond.declares ({ cls := "com/example/holdfast/holdfast/Grant", name := "threadId", desc := "()J" } : Jvm.MethodName))).before a0 Z = true := hw _ (List.mem_of_getElem? (i := 36) rfl)
theorem tw37 {Z : State} {a0 : Array Value} (hw : ∀ d ∈ tables_1, d.before a0 Z = true) : ((Jvm.Cond.instanceMethod ({ cls := "com/example/holdfast/holdfast/Grant", name := "threadId", desc := "()J" } : Jvm.MethodName))).before a0 Z = true := hw _ (List.mem_of_getElem? (i := 37) rfl)
theorem tw38 {Z : State} {a0 : Array Value} (hw : ∀ d ∈ tables_1, d.before a0 Z = true) : ((Jvm.Cond.selects "com/example/holdfast/holdfast/Grant" ({ cls := "com/example/holdfast/holdfast/Grant", name := "threadId", desc := "()J" } : Jvm.MethodName) ({ cls := "com/example/holdfast/holdfast/Grant", name := "threadId", desc := "()J" } : Jvm.MethodName))).before a0 Z = true := hw _ (List.mem_of_getElem? (i := 38) rfl)
theorem tw39 {Z : State} {a0 : Array Value} (hw : ∀ d ∈ tables_1, d.before a0 Z = true) : ((Jvm.Cond.code ({ cls := "com/example/holdfast/holdfast/Grant", name := "threadId", desc := "()J" } : Jvm.MethodName) prog_2_method_13_code (1 : Nat) (Option.some Jvm.ClassFile.FieldType.long))).before a0 Z = true := hw _ (List.mem_of_getElem? (i := 39) rfl)
theorem tw40 {Z : State} {a0 : Array Value} (hw : ∀ d ∈ tables_1, d.before a0 Z = true) : ((Jvm.Cond.methodLink "com/example/holdfast/holdfast/GrantEndingByPinLaw" (24 : Nat) ({ cls := "com/example/holdfast/holdfast/Grant", name := "token", desc := "()J" } : Jvm.MethodName))).before a0 Z = true := hw _ (List.mem_of_getElem? (i := 40) rfl)
theorem tw41 {Z : State} {a0 : Array Value} (hw : ∀ d ∈ tables_1, d.before a0 Z = true) : ((Jvm.Cond.declares ({ cls := "com/example/holdfast/holdfast/Grant", name := "token", desc := "()J" } : Jvm.MethodName))).before a0 Z = true := hw _ (List.mem_of_getElem? (i := 41) rfl)
theorem tw42 {Z : State} {a0 : Array Value} (hw : ∀ d ∈ tables_1, d.before a0 Z = true) : ((Jvm.Cond.instanceMethod ({ cls := "com/example/holdfast/holdfast/Grant", name := "token", desc := "()J" } : Jvm.MethodName))).before a0 Z = true := hw _ (List.mem_of_getElem? (i := 42) rfl)
theorem tw43 {Z : State} {a0 : Array Value} (hw : ∀ d ∈ tables_1, d.before a0 Z = true) : ((Jvm.Cond.selects "com/example/holdfast/holdfast/Grant" ({ cls := "com/example/holdfast/holdfast/Grant", name := "token", desc := "()J" } : Jvm.MethodName) ({ cls := "com/example/holdfast/holdfast/Grant", name := "token", desc := "()J" } : Jvm.MethodName))).before a0 Z = true := hw _ (List.mem_of_getElem? (i := 43) rfl)
theorem tw44 {Z : State} {a0 : Array Value} (hw : ∀ d ∈ tables_1, d.before a0 Z = true) : ((Jvm.Cond.code ({ cls := "com/example/holdfast/holdfast/Grant", name := "token", desc := "()J" } : Jvm.MethodName) prog_2_method_14_code (1 : Nat) (Option.some Jvm.ClassFile.FieldType.long))).before a0 Z = true := hw _ (List.mem_of_getElem? (i := 44) rfl)
theorem tw45 {Z : State} {a0 : Array Value} (hw : ∀ d ∈ tables_1, d.before a0 Z = true) : ((Jvm.Cond.methodLink "com/example/holdfast/holdfast/GrantEndingByPinLaw" (27 : Nat) ({ cls := "com/example/holdfast/holdfast/Grant", name := "servers", desc := "()J" } : Jvm.MethodName))).before a0 Z = true := hw _ (List.mem_of_getElem? (i := 45) rfl)
theorem tw46 {Z : State} {a0 : Array Value} (hw : ∀ d ∈ tables_1, d.before a0 Z = true) : ((Jvm.Cond.declares ({ cls := "com/example/holdfast/holdfast/Grant", name := "servers", desc := "()J" } : Jvm.MethodName))).before a0 Z = true := hw _ (List.mem_of_getElem? (i := 46) rfl)
theorem tw47 {Z : State} {a0 : Array Value} (hw : ∀ d ∈ tables_1, d.before a0 Z = true) : ((Jvm.Cond.instanceMethod ({ cls := "com/example/holdfast/holdfast/Grant", name := "servers", desc := "()J" } : Jvm.MethodName))).before a0 Z = true := hw _ (List.mem_of_getElem? (i := 47) rfl)
theorem tw48 {Z : State} {a0 : Array Value} (hw : ∀ d ∈ tables_1, d.before a0 Z = true) : ((Jvm.Cond.selects "com/example/holdfast/holdfast/Grant" ({ cls := "com/example/holdfast/holdfast/Grant", name := "servers", desc := "()J" } : Jvm.MethodName) ({ cls := "com/example/holdfast/holdfast/Grant", name := "servers", desc := "()J" } : Jvm.MethodName))).before a0 Z = true := hw _ (List.mem_of_getElem? (i := 48) rfl)
theorem tw49 {Z : State} {a0 : Array Value} (hw : ∀ d ∈ tables_1, d.before a0 Z = true) : ((Jvm.Cond.code ({ cls := "com/example/holdfast/holdfast/Grant", name := "servers", desc := "()J" } : Jvm.MethodName) prog_2_method_15_code (1 : Nat) (Option.some Jvm.ClassFile.FieldType.long))).before a0 Z = true := hw _ (List.mem_of_getElem? (i := 49) rfl)
theorem tw50 {Z : State} {a0 : Array Value} (hw : ∀ d ∈ tables_1, d.before a0 Z = true) : ((Jvm.Cond.methodLink "com/example/holdfast/holdfast/GrantEndingByPinLaw" (30 : Nat) ({ cls := "com/example/holdfast/holdfast/Grant", name := "requestedAtNanos", desc := "()J" } : Jvm.MethodName))).before a0 Z = true := hw _ (List.mem_of_getElem? (i := 50) rfl)
theorem tw51 {Z : State} {a0 : Array Value} (hw : ∀ d ∈ tables_1, d.before a0 Z = true) : ((Jvm.Cond.declares ({ cls := "com/example/holdfast/holdfast/Grant", name := "requestedAtNanos", desc := "()J" } : Jvm.MethodName))).before a0 Z = true := hw _ (List.mem_of_getElem? (i := 51) rfl)
theorem tw52 {Z : State} {a0 : Array Value} (hw : ∀ d ∈ tables_1, d.before a0 Z = true) : ((Jvm.Cond.instanceMethod ({ cls := "com/example/holdfast/holdfast/Grant", name := "requestedAtNanos", desc := "()J" } : Jvm.MethodName))).before a0 Z = true := hw _ (List.mem_of_getElem? (i := 52) rfl)
theorem tw53 {Z : State} {a0 : Array Value} (hw : ∀ d ∈ tables_1, d.before a0 Z = true) : ((Jvm.Cond.selects "com/example/holdfast/holdfast/Grant" ({ cls := "com/example/holdfast/holdfast/Grant", name := "requestedAtNanos", desc := "()J" } : Jvm.MethodName) ({ cls := "com/example/holdfast/holdfast/Grant", name := "requestedAtNanos", desc := "()J" } : Jvm.MethodName))).before a0 Z = true := hw _ (List.mem_of_getElem? (i := 53) rfl)
theorem tw54 {Z : State} {a0 : Array Value} (hw : ∀ d ∈ tables_1, d.before a0 Z = true) : ((Jvm.Cond.code ({ cls := "com/example/holdfast/holdfast/Grant", name := "requestedAtNanos", desc := "()J" } : Jvm.MethodName) prog_2_method_16_code (1 : Nat) (Option.some Jvm.ClassFile.FieldType.long))).before a0 Z = true := hw _ (List.mem_of_getElem? (i := 54) rfl)
theorem tw55 {Z : State} {a0 : Array Value} (hw : ∀ d ∈ tables_1, d.before a0 Z = true) : ((Jvm.Cond.methodLink "com/example/holdfast/holdfast/GrantEndingByPinLaw" (33 : Nat) ({ cls := "com/example/holdfast/holdfast/Grant", name := "leaseNanos", desc := "()J" } : Jvm.MethodName))).before a0 Z = true := hw _ (List.mem_of_getElem? (i := 55) rfl)
theorem tw56 {Z : State} {a0 : Array Value} (hw : ∀ d ∈ tables_1, d.before a0 Z = true) : ((Jvm.Cond.declares ({ cls := "com/example/holdfast/holdfast/Grant", name := "leaseNanos", desc := "()J" } : Jvm.MethodName))).before a0 Z = true := hw _ (List.mem_of_getElem? (i := 56) rfl)
theorem tw57 {Z : State} {a0 : Array Value} (hw : ∀ d ∈ tables_1, d.before a0 Z = true) : ((Jvm.Cond.instanceMethod ({ cls := "com/example/holdfast/holdfast/Grant", name := "leaseNanos", desc := "()J" } : Jvm.MethodName))).before a0 Z = true := hw _ (List.mem_of_getElem? (i := 57) rfl)
theorem tw58 {Z : State} {a0 : Array Value} (hw : ∀ d ∈ tables_1, d.before a0 Z = true) : ((Jvm.Cond.selects "com/example/holdfast/holdfast/Grant" ({ cls := "com/example/holdfast/holdfast/Grant", name := "leaseNanos", desc := "()J" } : Jvm.MethodName) ({ cls := "com/example/holdfast/holdfast/Grant", name := "leaseNanos", desc := "()J" } : Jvm.MethodName))).before a0 Z = true := hw _ (List.mem_of_getElem? (i := 58) rfl)
theorem tw59 {Z : State} {a0 : Array Value} (hw : ∀ d ∈ tables_1, d.before a0 Z = true) : ((Jvm.Cond.code ({ cls := "com/example/holdfast/holdfast/Grant", name := "leaseNanos", desc := "()J" } : Jvm.MethodName) prog_2_method_17_code (1 : Nat) (Option.some Jvm.ClassFile.FieldType.long))).before a0 Z = true := hw _ (List.mem_of_getElem? (i := 59) rfl)
theorem tw60 {Z : State} {a0 : Array Value} (hw : ∀ d ∈ tables_1, d.before a0 Z = true) : ((Jvm.Cond.methodLink "com/example/holdfast/holdfast/GrantEndingByPinLaw" (36 : Nat) ({ cls := "com/example/holdfast/holdfast/Grant", name := "holds", desc := "()I" } : Jvm.MethodName))).before a0 Z = true := hw _ (List.mem_of_getElem? (i := 60) rfl)
theorem tw61 {Z : State} {a0 : Array Value} (hw : ∀ d ∈ tables_1, d.before a0 Z = true) : ((Jvm.Cond.declares ({ cls := "com/example/holdfast/holdfast/Grant", name := "holds", desc := "()I" } : Jvm.MethodName))).before a0 Z = true := hw _ (List.mem_of_getElem? (i := 61) rfl)
theorem tw62 {Z : State} {a0 : Array Value} (hw : ∀ d ∈ tables_1, d.before a0 Z = true) : ((Jvm.Cond.instanceMethod ({ cls := "com/example/holdfast/holdfast/Grant", name := "holds", desc := "()I" } : Jvm.MethodName))).before a0 Z = true := hw _ (List.mem_of_getElem? (i := 62) rfl)
theorem tw63 {Z : State} {a0 : Array Value} (hw : ∀ d ∈ tables_1, d.before a0 Z = true) : ((Jvm.Cond.selects "com/example/holdfast/holdfast/Grant" ({ cls := "com/example/holdfast/holdfast/Grant", name := "holds", desc := "()I" } : Jvm.MethodName) ({ cls := "com/example/holdfast/holdfast/Grant", name := "holds", desc := "()I" } : Jvm.MethodName))).before a0 Z = true := hw _ (List.mem_of_getElem? (i := 63) rfl)
theorem tw64 {Z : State} {a0 : Array Value} (hw : ∀ d ∈ tables_1, d.before a0 Z = true) : ((Jvm.Cond.code ({ cls := "com/example/holdfast/holdfast/Grant", name := "holds", desc := "()I" } : Jvm.MethodName) prog_2_method_18_code (1 : Nat) (Option.some Jvm.ClassFile.FieldType.int))).before a0 Z = true := hw _ (List.mem_of_getElem? (i := 64) rfl)
theorem tw65 {Z : State} {a0 : Array Value} (hw : ∀ d ∈ tables_1, d.before a0 Z = true) : ((Jvm.Cond.methodLink "com/example/holdfast/holdfast/GrantEndingByPinLaw" (40 : Nat) ({ cls := "com/example/holdfast/holdfast/Grant", name := "renewed", desc := "()Z" } : Jvm.MethodName))).before a0 Z = true := hw _ (List.mem_of_getElem? (i := 65) rfl)
theorem tw66 {Z : State} {a0 : Array Value} (hw : ∀ d ∈ tables_1, d.before a0 Z = true) : ((Jvm.Cond.declares ({ cls := "com/example/holdfast/holdfast/Grant", name := "renewed", desc := "()Z" } : Jvm.MethodName))).before a0 Z = true := hw _ (List.mem_of_getElem? (i := 66) rfl)
theorem tw67 {Z : State} {a0 : Array Value} (hw : ∀ d ∈ tables_1, d.before a0 Z = true) : ((Jvm.Cond.instanceMethod ({ cls := "com/example/holdfast/holdfast/Grant", name := "renewed", desc := "()Z" } : Jvm.MethodName))).before a0 Z = true := hw _ (List.mem_of_getElem? (i := 67) rfl)
theorem tw68 {Z : State} {a0 : Array Value} (hw : ∀ d ∈ tables_1, d.before a0 Z = true) : ((Jvm.Cond.selects "com/example/holdfast/holdfast/Grant" ({ cls := "com/example/holdfast/holdfast/Grant", name := "renewed", desc := "()Z" } : Jvm.MethodName) ({ cls := "com/example/holdfast/holdfast/Grant", name := "renewed", desc := "()Z" } : Jvm.MethodName))).before a0 Z = true := hw _ (List.mem_of_getElem? (i := 68) rfl)
theorem tw69 {Z : State} {a0 : Array Value} (hw : ∀ d ∈ tables_1, d.before a0 Z = true) : ((Jvm.Cond.code ({ cls := "com/example/holdfast/holdfast/Grant", name := "renewed", desc := "()Z" } : Jvm.MethodName) prog_2_method_19_code (1 : Nat) (Option.some Jvm.ClassFile.FieldType.boolean))).before a0 Z = true := hw _ (List.mem_of_getElem? (i := 69) rfl)
theorem tw70 {Z : State} {a0 : Array Value} (hw : ∀ d ∈ tables_1, d.before a0 Z = true) : ((Jvm.Cond.classLink "com/example/holdfast/holdfast/Grant" (8 : Nat) "com/example/holdfast/holdfast/Grant")).before a0 Z = true := hw _ (List.mem_of_getElem? (i := 70) rfl)
theorem tw71 {Z : State} {a0 : Array Value} (hw : ∀ d ∈ tables_1, d.before a0 Z = true) : ((Jvm.Cond.methodLink "com/example/holdfast/holdfast/Grant" (61 : Nat) ({ cls := "com/example/holdfast/holdfast/Grant", name := "<init>", desc := "(JJJJJIZ)V" } : Jvm.MethodName))).before a0 Z = true := hw _ (List.mem_of_getElem? (i := 71) rfl)
theorem pd0 : parseMethodDescriptor "()V" = some ⟨[], none⟩ := by decide +kernel
theorem pd1 : parseMethodDescriptor "(JJJJJIZ)V" = some ⟨[.long, .long, .long, .long, .long, .int, .boolean], none⟩ := by decide +kernel
theorem pd2 : parseMethodDescriptor "(JJ)Lcom/example/holdfast/holdfast/Grant;" = some ⟨[.long, .long], some (.object "com/example/holdfast/holdfast/Grant")⟩ := by decide +kernel
theorem pd3 : parseMethodDescriptor "()J" = some ⟨[], some .long⟩ := by decide +kernel
theorem pd4 : parseMethodDescriptor "()I" = some ⟨[], some .int⟩ := by decide +kernel
theorem pd5 : parseMethodDescriptor "()Z" = some ⟨[], some .boolean⟩ := by decide +kernel
theorem d1_0 : decode prog_2_method_1_code 0 = .ok (.aload_n 0, 1) := by decide +kernel
theorem d1_1 : decode prog_2_method_1_code 1 = .ok (.invokespecial 1, 3) := by decide +kernel
theorem d1_4 : decode prog_2_method_1_code 4 = .ok (.aload_n 0, 1) := by decide +kernel
theorem d1_5 : decode prog_2_method_1_code 5 = .ok (.lload_n 1, 1) := by decide +kernel
theorem d1_6 : decode prog_2_method_1_code 6 = .ok (.putfield 7, 3) := by decide +kernel
theorem d1_9 : decode prog_2_method_1_code 9 = .ok (.aload_n 0, 1) := by decide +kernel
theorem d1_10 : decode prog_2_method_1_code 10 = .ok (.lload_n 3, 1) := by decide +kernel
theorem d1_11 : decode prog_2_method_1_code 11 = .ok (.putfield 13, 3) := by decide +kernel
theorem d1_14 : decode prog_2_method_1_code 14 = .ok (.aload_n 0, 1) := by decide +kernel
theorem d1_15 : decode prog_2_method_1_code 15 = .ok (.lload 5, 2) := by decide +kernel
theorem d1_17 : decode prog_2_method_1_code 17 = .ok (.putfield 16, 3) := by decide +kernel
theorem d1_20 : decode prog_2_method_1_code 20 = .ok (.aload_n 0, 1) := by decide +kernel
theorem d1_21 : decode prog_2_method_1_code 21 = .ok (.lload 7, 2) := by decide +kernel
theorem d1_23 : decode prog_2_method_1_code 23 = .ok (.putfield 19, 3) := by decide +kernel
theorem d1_26 : decode prog_2_method_1_code 26 = .ok (.aload_n 0, 1) := by decide +kernel
theorem d1_27 : decode prog_2_method_1_code 27 = .ok (.lload 9, 2) := by decide +kernel
theorem d1_29 : decode prog_2_method_1_code 29 = .ok (.putfield 22, 3) := by decide +kernel
theorem d1_32 : decode prog_2_method_1_code 32 = .ok (.aload_n 0, 1) := by decide +kernel
theorem d1_33 : decode prog_2_method_1_code 33 = .ok (.iload 11, 2) := by decide +kernel
theorem d1_35 : decode prog_2_method_1_code 35 = .ok (.putfield 25, 3) := by decide +kernel
theorem d1_38 : decode prog_2_method_1_code 38 = .ok (.aload_n 0, 1) := by decide +kernel
theorem d1_39 : decode prog_2_method_1_code 39 = .ok (.iload 12, 2) := by decide +kernel
theorem d1_41 : decode prog_2_method_1_code 41 = .ok (.putfield 29, 3) := by decide +kernel
theorem d1_44 : decode prog_2_method_1_code 44 = .ok (.return_, 1) := by decide +kernel
theorem d2_0 : decode jdk_30_method_1_code 0 = .ok (.aload_n 0, 1) := by decide +kernel
theorem d2_1 : decode jdk_30_method_1_code 1 = .ok (.invokespecial 1, 3) := by decide +kernel
theorem d2_4 : decode jdk_30_method_1_code 4 = .ok (.return_, 1) := by decide +kernel
theorem d4_0 : decode prog_2_method_7_code 0 = .ok (.lload_n 3, 1) := by decide +kernel
theorem d4_1 : decode prog_2_method_7_code 1 = .ok (.aload_n 0, 1) := by decide +kernel
theorem d4_2 : decode prog_2_method_7_code 2 = .ok (.getfield 22, 3) := by decide +kernel
theorem d4_5 : decode prog_2_method_7_code 5 = .ok (.lsub, 1) := by decide +kernel
theorem d4_6 : decode prog_2_method_7_code 6 = .ok (.aload_n 0, 1) := by decide +kernel
theorem d4_7 : decode prog_2_method_7_code 7 = .ok (.getfield 19, 3) := by decide +kernel
theorem d4_10 : decode prog_2_method_7_code 10 = .ok (.lload_n 1, 1) := by decide +kernel
theorem d4_11 : decode prog_2_method_7_code 11 = .ok (.lsub, 1) := by decide +kernel
theorem d4_12 : decode prog_2_method_7_code 12 = .ok (.lcmp, 1) := by decide +kernel
theorem d4_13 : decode prog_2_method_7_code 13 = .ok (.ifCond .lt 5, 3) := by decide +kernel
theorem d4_16 : decode prog_2_method_7_code 16 = .ok (.aload_n 0, 1) := by decide +kernel
theorem d4_17 : decode prog_2_method_7_code 17 = .ok (.areturn, 1) := by decide +kernel
theorem d4_18 : decode prog_2_method_7_code 18 = .ok (.new 8, 3) := by decide +kernel
theorem d4_21 : decode prog_2_method_7_code 21 = .ok (.dup, 1) := by decide +kernel
theorem d4_22 : decode prog_2_method_7_code 22 = .ok (.aload_n 0, 1) := by decide +kernel
theorem d4_23 : decode prog_2_method_7_code 23 = .ok (.getfield 7, 3) := by decide +kernel
theorem d4_26 : decode prog_2_method_7_code 26 = .ok (.aload_n 0, 1) := by decide +kernel
theorem d4_27 : decode prog_2_method_7_code 27 = .ok (.getfield 13, 3) := by decide +kernel
theorem d4_30 : decode prog_2_method_7_code 30 = .ok (.aload_n 0, 1) := by decide +kernel
theorem d4_31 : decode prog_2_method_7_code 31 = .ok (.getfield 16, 3) := by decide +kernel
theorem d4_34 : decode prog_2_method_7_code 34 = .ok (.lload_n 1, 1) := by decide +kernel
theorem d4_35 : decode prog_2_method_7_code 35 = .ok (.lload_n 3, 1) := by decide +kernel
theorem d4_36 : decode prog_2_method_7_code 36 = .ok (.aload_n 0, 1) := by decide +kernel
theorem d4_37 : decode prog_2_method_7_code 37 = .ok (.getfield 25, 3) := by decide +kernel
theorem d4_40 : decode prog_2_method_7_code 40 = .ok (.aload_n 0, 1) := by decide +kernel
theorem d4_41 : decode prog_2_method_7_code 41 = .ok (.getfield 29, 3) := by decide +kernel
theorem d4_44 : decode prog_2_method_7_code 44 = .ok (.invokespecial 61, 3) := by decide +kernel
theorem d4_47 : decode prog_2_method_7_code 47 = .ok (.areturn, 1) := by decide +kernel
theorem d5_0 : decode prog_2_method_13_code 0 = .ok (.aload_n 0, 1) := by decide +kernel
theorem d5_1 : decode prog_2_method_13_code 1 = .ok (.getfield 7, 3) := by decide +kernel
theorem d5_4 : decode prog_2_method_13_code 4 = .ok (.lreturn, 1) := by decide +kernel
theorem d6_0 : decode prog_2_method_14_code 0 = .ok (.aload_n 0, 1) := by decide +kernel
theorem d6_1 : decode prog_2_method_14_code 1 = .ok (.getfield 13, 3) := by decide +kernel
theorem d6_4 : decode prog_2_method_14_code 4 = .ok (.lreturn, 1) := by decide +kernel
theorem d7_0 : decode prog_2_method_15_code 0 = .ok (.aload_n 0, 1) := by decide +kernel
theorem d7_1 : decode prog_2_method_15_code 1 = .ok (.getfield 16, 3) := by decide +kernel
theorem d7_4 : decode prog_2_method_15_code 4 = .ok (.lreturn, 1) := by decide +kernel
theorem d8_0 : decode prog_2_method_16_code 0 = .ok (.aload_n 0, 1) := by decide +kernel
theorem d8_1 : decode prog_2_method_16_code 1 = .ok (.getfield 19, 3) := by decide +kernel
theorem d8_4 : decode prog_2_method_16_code 4 = .ok (.lreturn, 1) := by decide +kernel
theorem d9_0 : decode prog_2_method_17_code 0 = .ok (.aload_n 0, 1) := by decide +kernel
theorem d9_1 : decode prog_2_method_17_code 1 = .ok (.getfield 22, 3) := by decide +kernel
theorem d9_4 : decode prog_2_method_17_code 4 = .ok (.lreturn, 1) := by decide +kernel
theorem d10_0 : decode prog_2_method_18_code 0 = .ok (.aload_n 0, 1) := by decide +kernel
theorem d10_1 : decode prog_2_method_18_code 1 = .ok (.getfield 25, 3) := by decide +kernel
theorem d10_4 : decode prog_2_method_18_code 4 = .ok (.ireturn, 1) := by decide +kernel
theorem d11_0 : decode prog_2_method_19_code 0 = .ok (.aload_n 0, 1) := by decide +kernel
theorem d11_1 : decode prog_2_method_19_code 1 = .ok (.getfield 29, 3) := by decide +kernel
theorem d11_4 : decode prog_2_method_19_code 4 = .ok (.ireturn, 1) := by decide +kernel
def O_Grant (Z : State) (h : Heap) (a : Addr) (v0 v1 v2 v3 v4 v5 v6 : Value) : Prop := Exa Z h a "com/example/holdfast/holdfast/Grant" ∧ Fld Z h a "com/example/holdfast/holdfast/Grant" "threadId" "J" v0 ∧ Fld Z h a "com/example/holdfast/holdfast/Grant" "token" "J" v1 ∧ Fld Z h a "com/example/holdfast/holdfast/Grant" "servers" "J" v2 ∧ Fld Z h a "com/example/holdfast/holdfast/Grant" "requestedAtNanos" "J" v3 ∧ Fld Z h a "com/example/holdfast/holdfast/Grant" "leaseNanos" "J" v4 ∧ Fld Z h a "com/example/holdfast/holdfast/Grant" "holds" "I" v5 ∧ Fld Z h a "com/example/holdfast/holdfast/Grant" "renewed" "Z" v6
theorem O_Grant.ext {Z : State} {h h' : Heap} {a : Addr} {v0 v1 v2 v3 v4 v5 v6 : Value} (O : O_Grant Z h a v0 v1 v2 v3 v4 v5 v6) (E : Ext h h') : O_Grant Z h' a v0 v1 v2 v3 v4 v5 v6 := ⟨O.1.ext E, O.2.1.ext E, O.2.2.1.ext E, O.2.2.2.1.ext E, O.2.2.2.2.1.ext E, O.2.2.2.2.2.1.ext E, O.2.2.2.2.2.2.1.ext E, O.2.2.2.2.2.2.2.ext E⟩
theorem O_Grant.keep {Z : State} {h h' : Heap} {a : Addr} {ws : List Addr} {v0 v1 v2 v3 v4 v5 v6 : Value} (O : O_Grant Z h a v0 v1 v2 v3 v4 v5 v6) (K : Keep h h' ws) (q : a ∉ ws) : O_Grant Z h' a v0 v1 v2 v3 v4 v5 v6 := ⟨O.1.keep K, O.2.1.keep K q, O.2.2.1.keep K q, O.2.2.2.1.keep K q, O.2.2.2.2.1.keep K q, O.2.2.2.2.2.1.keep K q, O.2.2.2.2.2.2.1.keep K q, O.2.2.2.2.2.2.2.keep K q⟩
theorem O_Grant.other {Z : State} {h h' : Heap} {a b : Addr} {sl : Nat} {w : Value} {v0 v1 v2 v3 v4 v5 v6 : Value} (O : O_Grant Z h a v0 v1 v2 v3 v4 v5 v6) (W : Wr h h' b sl w) (q : a ≠ b) : O_Grant Z h' a v0 v1 v2 v3 v4 v5 v6 := ⟨O.1.wr W, O.2.1.other W (Or.inl q), O.2.2.1.other W (Or.inl q), O.2.2.2.1.other W (Or.inl q), O.2.2.2.2.1.other W (Or.inl q), O.2.2.2.2.2.1.other W (Or.inl q), O.2.2.2.2.2.2.1.other W (Or.inl q), O.2.2.2.2.2.2.2.other W (Or.inl q)⟩
theorem O_Grant.set0 {Z : State} {a0 : Array Value} {h h' : Heap} {a : Addr} {v0 v1 v2 v3 v4 v5 v6 : Value} {w : Value} (hw : ∀ d ∈ tables_1, d.before a0 Z = true) (W : Wr h h' a (Jvm.RoadKit.slotOf Z "com/example/holdfast/holdfast/Grant" "threadId" "J") w) (O : O_Grant Z h a v0 v1 v2 v3 v4 v5 v6) : O_Grant Z h' a w v1 v2 v3 v4 v5 v6 := ⟨O.1.wr W, O.2.1.same W, O.2.2.1.other W (Or.inr (slot_ne (a0 := a0) (C := "com/example/holdfast/holdfast/Grant") (Or.inr (tw19 hw)) (Or.inr (tw17 hw)) (by decide) (t := .long) (t' := .long) (by decide) (by decide))), O.2.2.2.1.other W (Or.inr (slot_ne (a0 := a0) (C := "com/example/holdfast/holdfast/Grant") (Or.inr (tw21 hw)) (Or.inr (tw17 hw)) (by decide) (t := .long) (t' := .long) (by decide) (by decide))), O.2.2.2.2.1.other W (Or.inr (slot_ne (a0 := a0) (C := "com/example/holdfast/holdfast/Grant") (Or.inr (tw23 hw)) (Or.inr (tw17 hw)) (by decide) (t := .long) (t' := .long) (by decide) (by decide))), O.2.2.2.2.2.1.other W (Or.inr (slot_ne (a0 := a0) (C := "com/example/holdfast/holdfast/Grant") (Or.inr (tw25 hw)) (Or.inr (tw17 hw)) (by decide) (t := .long) (t' := .long) (by decide) (by decide))), O.2.2.2.2.2.2.1.other W (Or.inr (slot_ne (a0 := a0) (C := "com/example/holdfast/holdfast/Grant") (Or.inr (tw27 hw)) (Or.inr (tw17 hw)) (by decide) (t := .int) (t' := .long) (by decide) (by decide))), O.2.2.2.2.2.2.2.other W (Or.inr (slot_ne (a0 := a0) (C := "com/example/holdfast/holdfast/Grant") (Or.inr (tw29 hw)) (Or.inr (tw17 hw)) (by decide) (t := .boolean) (t' := .long) (by decide) (by decide)))⟩
theorem O_Grant.set1 {Z : State} {a0 : Array Value} {h h' : Heap} {a : Addr} {v0 v1 v2 v3 v4 v5 v6 : Value} {w : Value} (hw : ∀ d ∈ tables_1, d.before a0 Z = true) (W : Wr h h' a (Jvm.RoadKit.slotOf Z "com/example/holdfast/holdfast/Grant" "token" "J") w) (O : O_Grant Z h a v0 v1 v2 v3 v4 v5 v6) : O_Grant Z h' a v0 w v2 v3 v4 v5 v6 := ⟨O.1.wr W, O.2.1.other W (Or.inr (slot_ne (a0 := a0) (C := "com/example/holdfast/holdfast/Grant") (Or.inr (tw17 hw)) (Or.inr (tw19 hw)) (by decide) (t := .long) (t' := .long) (by decide) (by decide))), O.2.2.1.same W, O.2.2.2.1.other W (Or.inr (slot_ne (a0 := a0) (C := "com/example/holdfast/holdfast/Grant") (Or.inr (tw21 hw)) (Or.inr (tw19 hw)) (by decide) (t := .long) (t' := .long) (by decide) (by decide))), O.2.2.2.2.1.other W (Or.inr (slot_ne (a0 := a0) (C := "com/example/holdfast/holdfast/Grant") (Or.inr (tw23 hw)) (Or.inr (tw19 hw)) (by decide) (t := .long) (t' := .long) (by decide) (by decide))), O.2.2.2.2.2.1.other W (Or.inr (slot_ne (a0 := a0) (C := "com/example/holdfast/holdfast/Grant") (Or.inr (tw25 hw)) (Or.inr (tw19 hw)) (by decide) (t := .long) (t' := .long) (by decide) (by decide))), O.2.2.2.2.2.2.1.other W (Or.inr (slot_ne (a0 := a0) (C := "com/example/holdfast/holdfast/Grant") (Or.inr (tw27 hw)) (Or.inr (tw19 hw)) (by decide) (t := .int) (t' := .long) (by decide) (by decide))), O.2.2.2.2.2.2.2.other W (Or.inr (slot_ne (a0 := a0) (C := "com/example/holdfast/holdfast/Grant") (Or.inr (tw29 hw)) (Or.inr (tw19 hw)) (by decide) (t := .boolean) (t' := .long) (by decide) (by decide)))⟩
theorem O_Grant.set2 {Z : State} {a0 : Array Value} {h h' : Heap} {a : Addr} {v0 v1 v2 v3 v4 v5 v6 : Value} {w : Value} (hw : ∀ d ∈ tables_1, d.before a0 Z = true) (W : Wr h h' a (Jvm.RoadKit.slotOf Z "com/example/holdfast/holdfast/Grant" "servers" "J") w) (O : O_Grant Z h a v0 v1 v2 v3 v4 v5 v6) : O_Grant Z h' a v0 v1 w v3 v4 v5 v6 := ⟨O.1.wr W, O.2.1.other W (Or.inr (slot_ne (a0 := a0) (C := "com/example/holdfast/holdfast/Grant") (Or.inr (tw17 hw)) (Or.inr (tw21 hw)) (by decide) (t := .long) (t' := .long) (by decide) (by decide))), O.2.2.1.other W (Or.inr (slot_ne (a0 := a0) (C := "com/example/holdfast/holdfast/Grant") (Or.inr (tw19 hw)) (Or.inr (tw21 hw)) (by decide) (t := .long) (t' := .long) (by decide) (by decide))), O.2.2.2.1.same W, O.2.2.2.2.1.other W (Or.inr (slot_ne (a0 := a0) (C := "com/example/holdfast/holdfast/Grant") (Or.inr (tw23 hw)) (Or.inr (tw21 hw)) (by decide) (t := .long) (t' := .long) (by decide) (by decide))), O.2.2.2.2.2.1.other W (Or.inr (slot_ne (a0 := a0) (C := "com/example/holdfast/holdfast/Grant") (Or.inr (tw25 hw)) (Or.inr (tw21 hw)) (by decide) (t := .long) (t' := .long) (by decide) (by decide))), O.2.2.2.2.2.2.1.other W (Or.inr (slot_ne (a0 := a0) (C := "com/example/holdfast/holdfast/Grant") (Or.inr (tw27 hw)) (Or.inr (tw21 hw)) (by decide) (t := .int) (t' := .long) (by decide) (by decide))), O.2.2.2.2.2.2.2.other W (Or.inr (slot_ne (a0 := a0) (C := "com/example/holdfast/holdfast/Grant") (Or.inr (tw29 hw)) (Or.inr (tw21 hw)) (by decide) (t := .boolean) (t' := .long) (by decide) (by decide)))⟩
theorem O_Grant.set3 {Z : State} {a0 : Array Value} {h h' : Heap} {a : Addr} {v0 v1 v2 v3 v4 v5 v6 : Value} {w : Value} (hw : ∀ d ∈ tables_1, d.before a0 Z = true) (W : Wr h h' a (Jvm.RoadKit.slotOf Z "com/example/holdfast/holdfast/Grant" "requestedAtNanos" "J") w) (O : O_Grant Z h a v0 v1 v2 v3 v4 v5 v6) : O_Grant Z h' a v0 v1 v2 w v4 v5 v6 := ⟨O.1.wr W, O.2.1.other W (Or.inr (slot_ne (a0 := a0) (C := "com/example/holdfast/holdfast/Grant") (Or.inr (tw17 hw)) (Or.inr (tw23 hw)) (by decide) (t := .long) (t' := .long) (by decide) (by decide))), O.2.2.1.other W (Or.inr (slot_ne (a0 := a0) (C := "com/example/holdfast/holdfast/Grant") (Or.inr (tw19 hw)) (Or.inr (tw23 hw)) (by decide) (t := .long) (t' := .long) (by decide) (by decide))), O.2.2.2.1.other W (Or.inr (slot_ne (a0 := a0) (C := "com/example/holdfast/holdfast/Grant") (Or.inr (tw21 hw)) (Or.inr (tw23 hw)) (by decide) (t := .long) (t' := .long) (by decide) (by decide))), O.2.2.2.2.1.same W, O.2.2.2.2.2.1.other W (Or.inr (slot_ne (a0 := a0) (C := "com/example/holdfast/holdfast/Grant") (Or.inr (tw25 hw)) (Or.inr (tw23 hw)) (by decide) (t := .long) (t' := .long) (by decide) (by decide))), O.2.2.2.2.2.2.1.other W (Or.inr (slot_ne (a0 := a0) (C := "com/example/holdfast/holdfast/Grant") (Or.inr (tw27 hw)) (Or.inr (tw23 hw)) (by decide) (t := .int) (t' := .long) (by decide) (by decide))), O.2.2.2.2.2.2.2.other W (Or.inr (slot_ne (a0 := a0) (C := "com/example/holdfast/holdfast/Grant") (Or.inr (tw29 hw)) (Or.inr (tw23 hw)) (by decide) (t := .boolean) (t' := .long) (by decide) (by decide)))⟩
theorem O_Grant.set4 {Z : State} {a0 : Array Value} {h h' : Heap} {a : Addr} {v0 v1 v2 v3 v4 v5 v6 : Value} {w : Value} (hw : ∀ d ∈ tables_1, d.before a0 Z = true) (W : Wr h h' a (Jvm.RoadKit.slotOf Z "com/example/holdfast/holdfast/Grant" "leaseNanos" "J") w) (O : O_Grant Z h a v0 v1 v2 v3 v4 v5 v6) : O_Grant Z h' a v0 v1 v2 v3 w v5 v6 := ⟨O.1.wr W, O.2.1.other W (Or.inr (slot_ne (a0 := a0) (C := "com/example/holdfast/holdfast/Grant") (Or.inr (tw17 hw)) (Or.inr (tw25 hw)) (by decide) (t := .long) (t' := .long) (by decide) (by decide))), O.2.2.1.other W (Or.inr (slot_ne (a0 := a0) (C := "com/example/holdfast/holdfast/Grant") (Or.inr (tw19 hw)) (Or.inr (tw25 hw)) (by decide) (t := .long) (t' := .long) (by decide) (by decide))), O.2.2.2.1.other W (Or.inr (slot_ne (a0 := a0) (C := "com/example/holdfast/holdfast/Grant") (Or.inr (tw21 hw)) (Or.inr (tw25 hw)) (by decide) (t := .long) (t' := .long) (by decide) (by decide))), O.2.2.2.2.1.other W (Or.inr (slot_ne (a0 := a0) (C := "com/example/holdfast/holdfast/Grant") (Or.inr (tw23 hw)) (Or.inr (tw25 hw)) (by decide) (t := .long) (t' := .long) (by decide) (by decide))), O.2.2.2.2.2.1.same W, O.2.2.2.2.2.2.1.other W (Or.inr (slot_ne (a0 := a0) (C := "com/example/holdfast/holdfast/Grant") (Or.inr (tw27 hw)) (Or.inr (tw25 hw)) (by decide) (t := .int) (t' := .long) (by decide) (by decide))), O.2.2.2.2.2.2.2.other W (Or.inr (slot_ne (a0 := a0) (C := "com/example/holdfast/holdfast/Grant") (Or.inr (tw29 hw)) (Or.inr (tw25 hw)) (by decide) (t := .boolean) (t' := .long) (by decide) (by decide)))⟩
theorem O_Grant.set5 {Z : State} {a0 : Array Value} {h h' : Heap} {a : Addr} {v0 v1 v2 v3 v4 v5 v6 : Value} {w : Value} (hw : ∀ d ∈ tables_1, d.before a0 Z = true) (W : Wr h h' a (Jvm.RoadKit.slotOf Z "com/example/holdfast/holdfast/Grant" "holds" "I") w) (O : O_Grant Z h a v0 v1 v2 v3 v4 v5 v6) : O_Grant Z h' a v0 v1 v2 v3 v4 w v6 := ⟨O.1.wr W, O.2.1.other W (Or.inr (slot_ne (a0 := a0) (C := "com/example/holdfast/holdfast/Grant") (Or.inr (tw17 hw)) (Or.inr (tw27 hw)) (by decide) (t := .long) (t' := .int) (by decide) (by decide))), O.2.2.1.other W (Or.inr (slot_ne (a0 := a0) (C := "com/example/holdfast/holdfast/Grant") (Or.inr (tw19 hw)) (Or.inr (tw27 hw)) (by decide) (t := .long) (t' := .int) (by decide) (by decide))), O.2.2.2.1.other W (Or.inr (slot_ne (a0 := a0) (C := "com/example/holdfast/holdfast/Grant") (Or.inr (tw21 hw)) (Or.inr (tw27 hw)) (by decide) (t := .long) (t' := .int) (by decide) (by decide))), O.2.2.2.2.1.other W (Or.inr (slot_ne (a0 := a0) (C := "com/example/holdfast/holdfast/Grant") (Or.inr (tw23 hw)) (Or.inr (tw27 hw)) (by decide) (t := .long) (t' := .int) (by decide) (by decide))), O.2.2.2.2.2.1.other W (Or.inr (slot_ne (a0 := a0) (C := "com/example/holdfast/holdfast/Grant") (Or.inr (tw25 hw)) (Or.inr (tw27 hw)) (by decide) (t := .long) (t' := .int) (by decide) (by decide))), O.2.2.2.2.2.2.1.same W, O.2.2.2.2.2.2.2.other W (Or.inr (slot_ne (a0 := a0) (C := "com/example/holdfast/holdfast/Grant") (Or.inr (tw29 hw)) (Or.inr (tw27 hw)) (by decide) (t := .boolean) (t' := .int) (by decide) (by decide)))⟩
theorem O_Grant.set6 {Z : State} {a0 : Array Value} {h h' : Heap} {a : Addr} {v0 v1 v2 v3 v4 v5 v6 : Value} {w : Value} (hw : ∀ d ∈ tables_1, d.before a0 Z = true) (W : Wr h h' a (Jvm.RoadKit.slotOf Z "com/example/holdfast/holdfast/Grant" "renewed" "Z") w) (O : O_Grant Z h a v0 v1 v2 v3 v4 v5 v6) : O_Grant Z h' a v0 v1 v2 v3 v4 v5 w := ⟨O.1.wr W, O.2.1.other W (Or.inr (slot_ne (a0 := a0) (C := "com/example/holdfast/holdfast/Grant") (Or.inr (tw17 hw)) (Or.inr (tw29 hw)) (by decide) (t := .long) (t' := .boolean) (by decide) (by decide))), O.2.2.1.other W (Or.inr (slot_ne (a0 := a0) (C := "com/example/holdfast/holdfast/Grant") (Or.inr (tw19 hw)) (Or.inr (tw29 hw)) (by decide) (t := .long) (t' := .boolean) (by decide) (by decide))), O.2.2.2.1.other W (Or.inr (slot_ne (a0 := a0) (C := "com/example/holdfast/holdfast/Grant") (Or.inr (tw21 hw)) (Or.inr (tw29 hw)) (by decide) (t := .long) (t' := .boolean) (by decide) (by decide))), O.2.2.2.2.1.other W (Or.inr (slot_ne (a0 := a0) (C := "com/example/holdfast/holdfast/Grant") (Or.inr (tw23 hw)) (Or.inr (tw29 hw)) (by decide) (t := .long) (t' := .boolean) (by decide) (by decide))), O.2.2.2.2.2.1.other W (Or.inr (slot_ne (a0 := a0) (C := "com/example/holdfast/holdfast/Grant") (Or.inr (tw25 hw)) (Or.inr (tw29 hw)) (by decide) (t := .long) (t' := .boolean) (by decide) (by decide))), O.2.2.2.2.2.2.1.other W (Or.inr (slot_ne (a0 := a0) (C := "com/example/holdfast/holdfast/Grant") (Or.inr (tw27 hw)) (Or.inr (tw29 hw)) (by decide) (t := .int) (t' := .boolean) (by decide) (by decide))), O.2.2.2.2.2.2.2.same W⟩
theorem pn2 : plainName "java/lang/Record" = true := by first | (simp [plainName, overriddenIn]; done) | decide +kernel
theorem ef2 (m : MethodId) (x0 : Addr) : entryFrame m #[(.ref x0)] 1 = mkF m 0 #[.val (.ref x0)] [] := by first | (simp [entryFrame, mkF, argsToLocals, Value.category]; done) | rfl
set_option maxRecDepth 65536 in
set_option maxHeartbeats 40000000 in
theorem rm2 (l : Launch) (Z : State) (a0 : Array Value) (hw : ∀ d ∈ tables_1, d.before a0 Z = true) (ws : List Jvm.Cond) (a1 : Addr) (h0 : Heap) (n0 : Nat) (Z0 : n0 ≤ h0.size) :
    Met l Z (⟨"java/lang/Record", "<init>", "()V"⟩ : MethodName) jdk_30_method_1_code 1 none ({ frames := 1, cells := 0, slots := 0, locals := 12 } : Room) ws n0 #[(.ref a1)] h0 (fun v h' => v = none ∧ h0 = h') := by
  refine Met.intro (plainFor_of_name pn2) Z0 ?_
  intro p e s m below meth c T X
  refine g_cast (ef2 m a1) ?_
  refine g_aloadN X d2_0 rfl (q := 1) rfl rfl ?_
  refine g_initO X (tw13 hw) (tw14 hw) (tw15 hw) d2_1 (q := 4) rfl rfl (by decide) (W := 0) rfl (by decide) (fun T X => ?_)
  exact g_ret0 X d2_4 (by decide) (by decide) ⟨rfl, rfl⟩
theorem pn1 : plainName "com/example/holdfast/holdfast/Grant" = true := by first | (simp [plainName, overriddenIn]; done) | decide +kernel
theorem ef1 (m : MethodId) (x0 : Addr) (x1 : Int64) (x2 : Int64) (x3 : Int64) (x4 : Int64) (x5 : Int64) (x6 : Int32) (x7 : Int32) : entryFrame m #[(.ref x0), (.long x1), (.long x2), (.long x3), (.long x4), (.long x5), (.int x6), (.int x7)] 13 = mkF m 0 #[.val (.ref x0), .val (.long x1), .second, .val (.long x2), .second, .val (.long x3), .second, .val (.long x4), .second, .val (.long x5), .second, .val (.int x6), .val (.int x7)] [] := by first | (simp [entryFrame, mkF, argsToLocals, Value.category]; done) | rfl
set_option maxRecDepth 65536 in
set_option maxHeartbeats 40000000 in
theorem rm1 (l : Launch) (Z : State) (a0 : Array Value) (hw : ∀ d ∈ tables_1, d.before a0 Z = true) (ws : List Jvm.Cond) (a1 : Addr) (q2 : Int64) (q3 : Int64) (q4 : Int64) (q5 : Int64) (q6 : Int64) (p7 : Int32) (P8 : Prop) [Decidable P8] (h0 : Heap) (n0 : Nat) (Z0 : n0 ≤ h0.size) (O_a1 : O_Grant Z h0 a1 (.long (0 : Int64)) (.long (0 : Int64)) (.long (0 : Int64)) (.long (0 : Int64)) (.long (0 : Int64)) (.int (0 : Int32)) (.int (0 : Int32))) (g_a1 : n0 ≤ a1) :
    Met l Z (⟨"com/example/holdfast/holdfast/Grant", "<init>", "(JJJJJIZ)V"⟩ : MethodName) prog_2_method_1_code 13 none ({ frames := 2, cells := 0, slots := 0, locals := 24 } : Room) ws n0 #[(.ref a1), (.long q2), (.long q3), (.long q4), (.long q5), (.long q6), (.int p7), (.int (bI P8))] h0 (fun v h' => v = none ∧ Keep h0 h' [a1] ∧ O_Grant Z h' a1 (.long q2) (.long q3) (.long q4) (.long q5) (.long q6) (.int p7) (.int (bI P8))) := by
  refine Met.intro (plainFor_of_name pn1) Z0 ?_
  intro p e s m below meth c T X
  refine g_cast (ef1 m a1 q2 q3 q4 q5 q6 p7 (bI P8)) ?_
  have K : Keep h0 h0 [a1] := Keep.refl h0 _
  refine g_aloadN X d1_0 rfl (q := 1) rfl rfl ?_
  refine g_callI X [] [] rfl (tw8 hw) (tw9 hw) (tw11 hw) (tw12 hw) (by decide) (rm2 l Z a0 hw [] a1 _ n0 X.size) pd0 rfl rfl rfl d1_1 (q := 4) rfl (W := 0) rfl (by decide) (by decide) (c2 := 0) (s2 := 0) rfl rfl (by decide) (by decide) (fun v T h' X hQ => ?_)
  obtain ⟨rfl, rfl⟩ := hQ
  show Goes p e below s _ n0 _ (T.setTop (mkF m 4 #[.val (.ref a1), .val (.long q2), .second, .val (.long q3), .second, .val (.long q4), .second, .val (.long q5), .second, .val (.long q6), .second, .val (.int p7), .val (.int (bI P8))] []))
  refine g_aloadN X d1_4 rfl (q := 5) rfl rfl ?_
  refine g_lloadN X d1_5 rfl (q := 6) rfl ?_
  refine g_putF X (tw16 hw) Via.refl O_a1.2.1 O_a1.1 (Or.inr ⟨(tw17 hw), rfl, rfl⟩) (tw3 hw) (ty := .long) (by decide) rfl rfl g_a1 d1_6 (q := 9) rfl (fun T h X W => ?_)
  have O_a1 := O_Grant.set0 hw W O_a1
  have K := K.wr W (Or.inl (List.mem_of_getElem? (i := 0) rfl))
  refine g_aloadN X d1_9 rfl (q := 10) rfl rfl ?_
  refine g_lloadN X d1_10 rfl (q := 11) rfl ?_
  refine g_putF X (tw18 hw) Via.refl O_a1.2.2.1 O_a1.1 (Or.inr ⟨(tw19 hw), rfl, rfl⟩) (tw3 hw) (ty := .long) (by decide) rfl rfl g_a1 d1_11 (q := 14) rfl (fun T h X W => ?_)
  have O_a1 := O_Grant.set1 hw W O_a1
  have K := K.wr W (Or.inl (List.mem_of_getElem? (i := 0) rfl))
  refine g_aloadN X d1_14 rfl (q := 15) rfl rfl ?_
  refine g_lload X d1_15 rfl (q := 17) rfl ?_
  refine g_putF X (tw20 hw) Via.refl O_a1.2.2.2.1 O_a1.1 (Or.inr ⟨(tw21 hw), rfl, rfl⟩) (tw3 hw) (ty := .long) (by decide) rfl rfl g_a1 d1_17 (q := 20) rfl (fun T h X W => ?_)
  have O_a1 := O_Grant.set2 hw W O_a1
  have K := K.wr W (Or.inl (List.mem_of_getElem? (i := 0) rfl))
  refine g_aloadN X d1_20 rfl (q := 21) rfl rfl ?_
  refine g_lload X d1_21 rfl (q := 23) rfl ?_
  refine g_putF X (tw22 hw) Via.refl O_a1.2.2.2.2.1 O_a1.1 (Or.inr ⟨(tw23 hw), rfl, rfl⟩) (tw3 hw) (ty := .long) (by decide) rfl rfl g_a1 d1_23 (q := 26) rfl (fun T h X W => ?_)
  have O_a1 := O_Grant.set3 hw W O_a1
  have K := K.wr W (Or.inl (List.mem_of_getElem? (i := 0) rfl))
  refine g_aloadN X d1_26 rfl (q := 27) rfl rfl ?_
  refine g_lload X d1_27 rfl (q := 29) rfl ?_
  refine g_putF X (tw24 hw) Via.refl O_a1.2.2.2.2.2.1 O_a1.1 (Or.inr ⟨(tw25 hw), rfl, rfl⟩) (tw3 hw) (ty := .long) (by decide) rfl rfl g_a1 d1_29 (q := 32) rfl (fun T h X W => ?_)
  have O_a1 := O_Grant.set4 hw W O_a1
  have K := K.wr W (Or.inl (List.mem_of_getElem? (i := 0) rfl))
  refine g_aloadN X d1_32 rfl (q := 33) rfl rfl ?_
  refine g_iload X d1_33 rfl (q := 35) rfl ?_
  refine g_putF X (tw26 hw) Via.refl O_a1.2.2.2.2.2.2.1 O_a1.1 (Or.inr ⟨(tw27 hw), rfl, rfl⟩) (tw3 hw) (ty := .int) (by decide) rfl rfl g_a1 d1_35 (q := 38) rfl (fun T h X W => ?_)
  have O_a1 := O_Grant.set5 hw W O_a1
  have K := K.wr W (Or.inl (List.mem_of_getElem? (i := 0) rfl))
  refine g_aloadN X d1_38 rfl (q := 39) rfl rfl ?_
  refine g_iload X d1_39 rfl (q := 41) rfl ?_
  refine g_putF X (tw28 hw) Via.refl O_a1.2.2.2.2.2.2.2 O_a1.1 (Or.inr ⟨(tw29 hw), rfl, rfl⟩) (tw3 hw) (ty := .boolean) (by decide) (own_narZ (bI_01 _)) (own_fitZ (bI_01 _)) g_a1 d1_41 (q := 44) rfl (fun T h X W => ?_)
  have O_a1 := O_Grant.set6 hw W O_a1
  have K := K.wr W (Or.inl (List.mem_of_getElem? (i := 0) rfl))
  exact g_ret0 X d1_44 (by decide) (by decide) ⟨rfl, K, O_a1⟩
theorem pn5 : plainName "com/example/holdfast/holdfast/Grant" = true := by first | (simp [plainName, overriddenIn]; done) | decide +kernel
theorem ef5 (m : MethodId) (x0 : Addr) : entryFrame m #[(.ref x0)] 1 = mkF m 0 #[.val (.ref x0)] [] := by first | (simp [entryFrame, mkF, argsToLocals, Value.category]; done) | rfl
set_option maxRecDepth 65536 in
set_option maxHeartbeats 40000000 in
theorem rm5 (l : Launch) (Z : State) (a0 : Array Value) (hw : ∀ d ∈ tables_1, d.before a0 Z = true) (ws : List Jvm.Cond) (a1 : Addr) (s0 : Int64) (s1 : Int64) (s2 : Int64) (s3 : Int64) (s4 : Int64) (s5 : Int32) (s6 : Prop) [Decidable s6] (h0 : Heap) (n0 : Nat) (Z0 : n0 ≤ h0.size) (O_a1 : O_Grant Z h0 a1 (.long s0) (.long s1) (.long s2) (.long s3) (.long s4) (.int s5) (.int (bI s6))) :
    Met l Z (⟨"com/example/holdfast/holdfast/Grant", "threadId", "()J"⟩ : MethodName) prog_2_method_13_code 1 (some .long) ({ frames := 0, cells := 0, slots := 0, locals := 0 } : Room) ws n0 #[(.ref a1)] h0 (fun v h' => v = some (.long s0) ∧ h0 = h') := by
  refine Met.intro (plainFor_of_name pn5) Z0 ?_
  intro p e s m below meth c T X
  refine g_cast (ef5 m a1) ?_
  refine g_aloadN X d5_0 rfl (q := 1) rfl rfl ?_
  refine g_getF X (tw16 hw) Via.refl O_a1.2.1 d5_1 (q := 4) rfl (fun T X => ?_)
  exact g_retJ X d5_4 (by decide) (by decide) ⟨rfl, rfl⟩
theorem pn6 : plainName "com/example/holdfast/holdfast/Grant" = true := by first | (simp [plainName, overriddenIn]; done) | decide +kernel
theorem ef6 (m : MethodId) (x0 : Addr) : entryFrame m #[(.ref x0)] 1 = mkF m 0 #[.val (.ref x0)] [] := by first | (simp [entryFrame, mkF, argsToLocals, Value.category]; done) | rfl
set_option maxRecDepth 65536 in
set_option maxHeartbeats 40000000 in
theorem rm6 (l : Launch) (Z : State) (a0 : Array Value) (hw : ∀ d ∈ tables_1, d.before a0 Z = true) (ws : List Jvm.Cond) (a1 : Addr) (s0 : Int64) (s1 : Int64) (s2 : Int64) (s3 : Int64) (s4 : Int64) (s5 : Int32) (s6 : Prop) [Decidable s6] (h0 : Heap) (n0 : Nat) (Z0 : n0 ≤ h0.size) (O_a1 : O_Grant Z h0 a1 (.long s0) (.long s1) (.long s2) (.long s3) (.long s4) (.int s5) (.int (bI s6))) :
    Met l Z (⟨"com/example/holdfast/holdfast/Grant", "token", "()J"⟩ : MethodName) prog_2_method_14_code 1 (some .long) ({ frames := 0, cells := 0, slots := 0, locals := 0 } : Room) ws n0 #[(.ref a1)] h0 (fun v h' => v = some (.long s1) ∧ h0 = h') := by
  refine Met.intro (plainFor_of_name pn6) Z0 ?_
  intro p e s m below meth c T X
  refine g_cast (ef6 m a1) ?_
  refine g_aloadN X d6_0 rfl (q := 1) rfl rfl ?_
  refine g_getF X (tw18 hw) Via.refl O_a1.2.2.1 d6_1 (q := 4) rfl (fun T X => ?_)
  exact g_retJ X d6_4 (by decide) (by decide) ⟨rfl, rfl⟩
theorem pn7 : plainName "com/example/holdfast/holdfast/Grant" = true := by first | (simp [plainName, overriddenIn]; done) | decide +kernel
theorem ef7 (m : MethodId) (x0 : Addr) : entryFrame m #[(.ref x0)] 1 = mkF m 0 #[.val (.ref x0)] [] := by first | (simp [entryFrame, mkF, argsToLocals, Value.category]; done) | rfl
set_option maxRecDepth 65536 in
set_option maxHeartbeats 40000000 in
theorem rm7 (l : Launch) (Z : State) (a0 : Array Value) (hw : ∀ d ∈ tables_1, d.before a0 Z = true) (ws : List Jvm.Cond) (a1 : Addr) (s0 : Int64) (s1 : Int64) (s2 : Int64) (s3 : Int64) (s4 : Int64) (s5 : Int32) (s6 : Prop) [Decidable s6] (h0 : Heap) (n0 : Nat) (Z0 : n0 ≤ h0.size) (O_a1 : O_Grant Z h0 a1 (.long s0) (.long s1) (.long s2) (.long s3) (.long s4) (.int s5) (.int (bI s6))) :
    Met l Z (⟨"com/example/holdfast/holdfast/Grant", "servers", "()J"⟩ : MethodName) prog_2_method_15_code 1 (some .long) ({ frames := 0, cells := 0, slots := 0, locals := 0 } : Room) ws n0 #[(.ref a1)] h0 (fun v h' => v = some (.long s2) ∧ h0 = h') := by
  refine Met.intro (plainFor_of_name pn7) Z0 ?_
  intro p e s m below meth c T X
  refine g_cast (ef7 m a1) ?_
  refine g_aloadN X d7_0 rfl (q := 1) rfl rfl ?_
  refine g_getF X (tw20 hw) Via.refl O_a1.2.2.2.1 d7_1 (q := 4) rfl (fun T X => ?_)
  exact g_retJ X d7_4 (by decide) (by decide) ⟨rfl, rfl⟩
theorem pn8 : plainName "com/example/holdfast/holdfast/Grant" = true := by first | (simp [plainName, overriddenIn]; done) | decide +kernel
theorem ef8 (m : MethodId) (x0 : Addr) : entryFrame m #[(.ref x0)] 1 = mkF m 0 #[.val (.ref x0)] [] := by first | (simp [entryFrame, mkF, argsToLocals, Value.category]; done) | rfl
set_option maxRecDepth 65536 in
set_option maxHeartbeats 40000000 in
theorem rm8 (l : Launch) (Z : State) (a0 : Array Value) (hw : ∀ d ∈ tables_1, d.before a0 Z = true) (ws : List Jvm.Cond) (a1 : Addr) (s0 : Int64) (s1 : Int64) (s2 : Int64) (s3 : Int64) (s4 : Int64) (s5 : Int32) (s6 : Prop) [Decidable s6] (h0 : Heap) (n0 : Nat) (Z0 : n0 ≤ h0.size) (O_a1 : O_Grant Z h0 a1 (.long s0) (.long s1) (.long s2) (.long s3) (.long s4) (.int s5) (.int (bI s6))) :
    Met l Z (⟨"com/example/holdfast/holdfast/Grant", "requestedAtNanos", "()J"⟩ : MethodName) prog_2_method_16_code 1 (some .long) ({ frames := 0, cells := 0, slots := 0, locals := 0 } : Room) ws n0 #[(.ref a1)] h0 (fun v h' => v = some (.long s3) ∧ h0 = h') := by
  refine Met.intro (plainFor_of_name pn8) Z0 ?_
  intro p e s m below meth c T X
  refine g_cast (ef8 m a1) ?_
  refine g_aloadN X d8_0 rfl (q := 1) rfl rfl ?_
  refine g_getF X (tw22 hw) Via.refl O_a1.2.2.2.2.1 d8_1 (q := 4) rfl (fun T X => ?_)
  exact g_retJ X d8_4 (by decide) (by decide) ⟨rfl, rfl⟩
theorem pn9 : plainName "com/example/holdfast/holdfast/Grant" = true := by first | (simp [plainName, overriddenIn]; done) | decide +kernel
theorem ef9 (m : MethodId) (x0 : Addr) : entryFrame m #[(.ref x0)] 1 = mkF m 0 #[.val (.ref x0)] [] := by first | (simp [entryFrame, mkF, argsToLocals, Value.category]; done) | rfl
set_option maxRecDepth 65536 in
set_option maxHeartbeats 40000000 in
theorem rm9 (l : Launch) (Z : State) (a0 : Array Value) (hw : ∀ d ∈ tables_1, d.before a0 Z = true) (ws : List Jvm.Cond) (a1 : Addr) (s0 : Int64) (s1 : Int64) (s2 : Int64) (s3 : Int64) (s4 : Int64) (s5 : Int32) (s6 : Prop) [Decidable s6] (h0 : Heap) (n0 : Nat) (Z0 : n0 ≤ h0.size) (O_a1 : O_Grant Z h0 a1 (.long s0) (.long s1) (.long s2) (.long s3) (.long s4) (.int s5) (.int (bI s6))) :
    Met l Z (⟨"com/example/holdfast/holdfast/Grant", "leaseNanos", "()J"⟩ : MethodName) prog_2_method_17_code 1 (some .long) ({ frames := 0, cells := 0, slots := 0, locals := 0 } : Room) ws n0 #[(.ref a1)] h0 (fun v h' => v = some (.long s4) ∧ h0 = h') := by
  refine Met.intro (plainFor_of_name pn9) Z0 ?_
  intro p e s m below meth c T X
  refine g_cast (ef9 m a1) ?_
  refine g_aloadN X d9_0 rfl (q := 1) rfl rfl ?_
  refine g_getF X (tw24 hw) Via.refl O_a1.2.2.2.2.2.1 d9_1 (q := 4) rfl (fun T X => ?_)
  exact g_retJ X d9_4 (by decide) (by decide) ⟨rfl, rfl⟩
theorem pn10 : plainName "com/example/holdfast/holdfast/Grant" = true := by first | (simp [plainName, overriddenIn]; done) | decide +kernel
theorem ef10 (m : MethodId) (x0 : Addr) : entryFrame m #[(.ref x0)] 1 = mkF m 0 #[.val (.ref x0)] [] := by first | (simp [entryFrame, mkF, argsToLocals, Value.category]; done) | rfl
set_option maxRecDepth 65536 in
set_option maxHeartbeats 40000000 in
theorem rm10 (l : Launch) (Z : State) (a0 : Array Value) (hw : ∀ d ∈ tables_1, d.before a0 Z = true) (ws : List Jvm.Cond) (a1 : Addr) (s0 : Int64) (s1 : Int64) (s2 : Int64) (s3 : Int64) (s4 : Int64) (s5 : Int32) (s6 : Prop) [Decidable s6] (h0 : Heap) (n0 : Nat) (Z0 : n0 ≤ h0.size) (O_a1 : O_Grant Z h0 a1 (.long s0) (.long s1) (.long s2) (.long s3) (.long s4) (.int s5) (.int (bI s6))) :
    Met l Z (⟨"com/example/holdfast/holdfast/Grant", "holds", "()I"⟩ : MethodName) prog_2_method_18_code 1 (some .int) ({ frames := 0, cells := 0, slots := 0, locals := 0 } : Room) ws n0 #[(.ref a1)] h0 (fun v h' => v = some (.int s5) ∧ h0 = h') := by
  refine Met.intro (plainFor_of_name pn10) Z0 ?_
  intro p e s m below meth c T X
  refine g_cast (ef10 m a1) ?_
  refine g_aloadN X d10_0 rfl (q := 1) rfl rfl ?_
  refine g_getF X (tw26 hw) Via.refl O_a1.2.2.2.2.2.2.1 d10_1 (q := 4) rfl (fun T X => ?_)
  exact g_retI X d10_4 (by decide) (by decide) ⟨rfl, rfl⟩
theorem pn11 : plainName "com/example/holdfast/holdfast/Grant" = true := by first | (simp [plainName, overriddenIn]; done) | decide +kernel
theorem ef11 (m : MethodId) (x0 : Addr) : entryFrame m #[(.ref x0)] 1 = mkF m 0 #[.val (.ref x0)] [] := by first | (simp [entryFrame, mkF, argsToLocals, Value.category]; done) | rfl
set_option maxRecDepth 65536 in
set_option maxHeartbeats 40000000 in
theorem rm11 (l : Launch) (Z : State) (a0 : Array Value) (hw : ∀ d ∈ tables_1, d.before a0 Z = true) (ws : List Jvm.Cond) (a1 : Addr) (s0 : Int64) (s1 : Int64) (s2 : Int64) (s3 : Int64) (s4 : Int64) (s5 : Int32) (s6 : Prop) [Decidable s6] (h0 : Heap) (n0 : Nat) (Z0 : n0 ≤ h0.size) (O_a1 : O_Grant Z h0 a1 (.long s0) (.long s1) (.long s2) (.long s3) (.long s4) (.int s5) (.int (bI s6))) :
    Met l Z (⟨"com/example/holdfast/holdfast/Grant", "renewed", "()Z"⟩ : MethodName) prog_2_method_19_code 1 (some .boolean) ({ frames := 0, cells := 0, slots := 0, locals := 0 } : Room) ws n0 #[(.ref a1)] h0 (fun v h' => v = some (.int (bI (s6))) ∧ h0 = h') := by
  refine Met.intro (plainFor_of_name pn11) Z0 ?_
  intro p e s m below meth c T X
  refine g_cast (ef11 m a1) ?_
  refine g_aloadN X d11_0 rfl (q := 1) rfl rfl ?_
  refine g_getF X (tw28 hw) Via.refl O_a1.2.2.2.2.2.2.2 d11_1 (q := 4) rfl (fun T X => ?_)
  exact g_retZ X d11_4 (by decide) (by decide) (bI_01 _) ⟨rfl, rfl⟩
theorem pn4 : plainName "com/example/holdfast/holdfast/Grant" = true := by first | (simp [plainName, overriddenIn]; done) | decide +kernel
theorem ef4 (m : MethodId) (x0 : Addr) (x1 : Int64) (x2 : Int64) : entryFrame m #[(.ref x0), (.long x1), (.long x2)] 5 = mkF m 0 #[.val (.ref x0), .val (.long x1), .second, .val (.long x2), .second] [] := by first | (simp [entryFrame, mkF, argsToLocals, Value.category]; done) | rfl
set_option maxRecDepth 65536 in
set_option maxHeartbeats 40000000 in
theorem rm4 (l : Launch) (Z : State) (a0 : Array Value) (hw : ∀ d ∈ tables_1, d.before a0 Z = true) (ws : List Jvm.Cond) (a1 : Addr) (q2 : Int64) (q3 : Int64) (s0 : Int64) (s1 : Int64) (s2 : Int64) (s3 : Int64) (s4 : Int64) (s5 : Int32) (s6 : Prop) [Decidable s6] (h0 : Heap) (n0 : Nat) (Z0 : n0 ≤ h0.size) (O_a1 : O_Grant Z h0 a1 (.long s0) (.long s1) (.long s2) (.long s3) (.long s4) (.int s5) (.int (bI s6))) :
    Met l Z (⟨"com/example/holdfast/holdfast/Grant", "endingBy", "(JJ)Lcom/example/holdfast/holdfast/Grant;"⟩ : MethodName) prog_2_method_7_code 5 (some (.object "com/example/holdfast/holdfast/Grant")) ({ frames := 3, cells := 1, slots := 7, locals := 49 } : Room) ws n0 #[(.ref a1), (.long q2), (.long q3)] h0 (fun v h' => ∃ r9 : Addr, v = some (.ref r9) ∧ Keep h0 h' [] ∧ O_Grant Z h' r9 (.long s0) (.long s1) (.long s2) (.long (if (q3 - s4) < (s3 - q2) then q2 else s3)) (.long (if (q3 - s4) < (s3 - q2) then q3 else s4)) (.int s5) (.int (bI s6))) := by
  refine Met.intro (plainFor_of_name pn4) Z0 ?_
  intro p e s m below meth c T X
  refine g_cast (ef4 m a1 q2 q3) ?_
  have K : Keep h0 h0 [] := Keep.refl h0 _
  refine g_lloadN X d4_0 rfl (q := 1) rfl ?_
  refine g_aloadN X d4_1 rfl (q := 2) rfl rfl ?_
  refine g_getF X (tw24 hw) Via.refl O_a1.2.2.2.2.2.1 d4_2 (q := 5) rfl (fun T X => ?_)
  refine g_lsub X d4_5 rfl (q := 6) ?_
  refine g_aloadN X d4_6 rfl (q := 7) rfl rfl ?_
  refine g_getF X (tw22 hw) Via.refl O_a1.2.2.2.2.1 d4_7 (q := 10) rfl (fun T X => ?_)
  refine g_lloadN X d4_10 rfl (q := 11) rfl ?_
  refine g_lsub X d4_11 rfl (q := 12) ?_
  refine g_lcmpA X d4_12 (q1 := 13) rfl d4_13 (Or.inl rfl) (q := 16) rfl (by decide) (t := 18) rfl (fun (c1 : (q3 - s4) < (s3 - q2)) => ?_) (fun (c1 : ¬ ((q3 - s4) < (s3 - q2))) => ?_)
  · skip
    refine g_new X (tw70 hw) (tw3 hw) (tw4 hw) d4_18 (q := 21) rfl (c2 := 1) (s2 := 7) rfl rfl (by decide) (by decide) (fun T h' b1 X gz_b1 g_b1 E Ex D => ?_)
    have ne_a1_b1 := own_new gz_b1 O_a1.1.lt
    have ne_b1_a1 := own_apS ne_a1_b1
    have sz_b1 := own_sz gz_b1 K
    have K := K.ext E
    have O_a1 := O_a1.ext E
    have O_b1 : O_Grant Z h' b1 (.long (0 : Int64)) (.long (0 : Int64)) (.long (0 : Int64)) (.long (0 : Int64)) (.long (0 : Int64)) (.int (0 : Int32)) (.int (0 : Int32)) := ⟨Ex, D (Or.inr (tw17 hw)) (ty := .long) (by decide), D (Or.inr (tw19 hw)) (ty := .long) (by decide), D (Or.inr (tw21 hw)) (ty := .long) (by decide), D (Or.inr (tw23 hw)) (ty := .long) (by decide), D (Or.inr (tw25 hw)) (ty := .long) (by decide), D (Or.inr (tw27 hw)) (ty := .int) (by decide), D (Or.inr (tw29 hw)) (ty := .boolean) (by decide)⟩
    refine g_dup X d4_21 rfl (q := 22) rfl ?_
    refine g_aloadN X d4_22 rfl (q := 23) rfl rfl ?_
    refine g_getF X (tw16 hw) Via.refl O_a1.2.1 d4_23 (q := 26) rfl (fun T X => ?_)
    refine g_aloadN X d4_26 rfl (q := 27) rfl rfl ?_
    refine g_getF X (tw18 hw) Via.refl O_a1.2.2.1 d4_27 (q := 30) rfl (fun T X => ?_)
    refine g_aloadN X d4_30 rfl (q := 31) rfl rfl ?_
    refine g_getF X (tw20 hw) Via.refl O_a1.2.2.2.1 d4_31 (q := 34) rfl (fun T X => ?_)
    refine g_lloadN X d4_34 rfl (q := 35) rfl ?_
    refine g_lloadN X d4_35 rfl (q := 36) rfl ?_
    refine g_aloadN X d4_36 rfl (q := 37) rfl rfl ?_
    refine g_getF X (tw26 hw) Via.refl O_a1.2.2.2.2.2.2.1 d4_37 (q := 40) rfl (fun T X => ?_)
    refine g_aloadN X d4_40 rfl (q := 41) rfl rfl ?_
    refine g_getF X (tw28 hw) Via.refl O_a1.2.2.2.2.2.2.2 d4_41 (q := 44) rfl (fun T X => ?_)
    refine g_callI X [(.long s0), (.long s1), (.long s2), (.long q2), (.long q3), (.int s5), (.int (bI s6))] [(.ref b1)] rfl (tw71 hw) (tw6 hw) (tw4 hw) (tw7 hw) (by decide) (rm1 l Z a0 hw [] b1 s0 s1 s2 q2 q3 s5 s6 _ n0 X.size O_b1 g_b1) pd1 rfl rfl rfl d4_44 (q := 47) rfl (W := 1) rfl (by decide) (by decide) (c2 := 1) (s2 := 7) rfl rfl (by decide) (by decide) (fun v T h' X hQ => ?_)
    obtain ⟨rfl, Kc, O_b1'⟩ := hQ
    have O_a1 := O_a1.keep Kc (ninS ne_a1_b1 nin0)
    have O_b1 := O_b1'
    have K := K.trans Kc (allS (Or.inr sz_b1) all0)
    show Goes p e below s _ n0 _ (T.setTop (mkF m 47 #[.val (.ref a1), .val (.long q2), .second, .val (.long q3), .second] [(.ref b1)]))
    exact g_retA X rfl rfl d4_47 (by decide) (by decide) ⟨b1, rfl, K, (by first | exact O_b1 | (simp only [if_pos c1]; exact O_b1))⟩
  · skip
    refine g_aloadN X d4_16 rfl (q := 17) rfl rfl ?_
    exact g_retA X rfl rfl d4_17 (by decide) (by decide) ⟨a1, rfl, K, (by first | exact O_a1 | (simp only [if_neg c1]; exact O_a1))⟩
theorem pn0 : plainName "com/example/holdfast/holdfast/GrantEndingByPinLaw" = true := by first | (simp [plainName, overriddenIn]; done) | decide +kernel
theorem ef0 (m : MethodId) (x0 : Int64) (x1 : Int64) (x2 : Int64) (x3 : Int64) (x4 : Int64) (x5 : Int64) : entryFrame m #[(.long x0), (.long x1), (.long x2), (.long x3), (.long x4), (.long x5)] maxLocals = mkF m 0 #[.val (.long x0), .second, .val (.long x1), .second, .val (.long x2), .second, .val (.long x3), .second, .val (.long x4), .second, .val (.long x5), .second, .unset, .unset, .unset, .unset, .unset, .unset, .unset, .unset, .unset, .unset, .unset, .unset, .unset, .unset, .unset, .unset, .unset, .unset, .unset, .unset, .unset] [] := by first | (simp [entryFrame, mkF, argsToLocals, Value.category, maxLocals]; done) | rfl
set_option maxRecDepth 65536 in
set_option maxHeartbeats 40000000 in
theorem rm0 (l : Launch) (Z : State) (a0 : Array Value) (hw : ∀ d ∈ tables_1, d.before a0 Z = true) (ws : List Jvm.Cond) (q1 : Int64) (q2 : Int64) (q3 : Int64) (q4 : Int64) (q5 : Int64) (q6 : Int64) (h0 : Heap) (n0 : Nat) (Z0 : n0 ≤ h0.size) :
    Met l Z x code maxLocals ret room_1 ws n0 #[(.long q1), (.long q2), (.long q3), (.long q4), (.long q5), (.long q6)] h0 (fun v h' => v = some (.int 1)) := by
  refine Met.intro (plainFor_of_name pn0) Z0 ?_
  intro p e s m below meth c T X
  refine g_cast (ef0 m q1 q2 q3 q4 q5 q6) ?_
  refine g_lload X at_0 rfl (q := 2) rfl ?_
  refine g_iconst X at_2 rfl (q := 3) (v := 3) rfl ?_
  refine g_lshr X at_3 rfl (q := 4) ?_
  refine g_letJ (fun x4 hx4 => ?_)
  have b_x4 : (-1152921504606846976 : Int) ≤ x4.toInt ∧ x4.toInt ≤ 1152921504606846975 := by
    have z0 := hx4
    have f1 := rng64 q3
    obtain ⟨n1_, hn1_⟩ : ∃ z, z = (q3 >>> ((3 : Int32) &&& 0x3f).toInt64) := ⟨_, rfl⟩
    (try simp only [← hn1_] at z0)
    have f2 := c_lshr q3 (3 : Int32) 3 (by decide)
    (try rw [← hn1_] at f2)
    (try simp only [Int64.reduceToInt, Int32.reduceToInt] at f2)
    have e0 := congrArg Int64.toInt z0
    (try simp only [Int64.lt_iff_toInt_lt, Int32.lt_iff_toInt_lt, Int64.le_iff_toInt_le, Int32.le_iff_toInt_le, ← Int64.toInt_inj, ← Int32.toInt_inj, apply_ite Int64.toInt, apply_ite Int32.toInt, Int64.reduceToInt, Int32.reduceToInt, ne_eq, true_and, and_true, false_or, or_false, iff_self, and_self, not_true_eq_false, not_false_eq_true] at e0)
    omega
  refine g_lstore X at_4 rfl (q := 6) (L' := #[.val (.long q1), .second, .val (.long q2), .second, .val (.long q3), .second, .val (.long q4), .second, .val (.long q5), .second, .val (.long q6), .second, .val (.long x4), .second, .unset, .unset, .unset, .unset, .unset, .unset, .unset, .unset, .unset, .unset, .unset, .unset, .unset, .unset, .unset, .unset, .unset, .unset, .unset]) rfl ?_
  refine g_lload X at_6 rfl (q := 8) rfl ?_
  refine g_iconst X at_8 rfl (q := 9) (v := 3) rfl ?_
  refine g_lshr X at_9 rfl (q := 10) ?_
  refine g_letJ (fun x10 hx10 => ?_)
  have b_x10 : (-1152921504606846976 : Int) ≤ x10.toInt ∧ x10.toInt ≤ 1152921504606846975 := by
    have z0 := hx10
    have f1 := rng64 q4
    obtain ⟨n1_, hn1_⟩ : ∃ z, z = (q4 >>> ((3 : Int32) &&& 0x3f).toInt64) := ⟨_, rfl⟩
    (try simp only [← hn1_] at z0)
    have f2 := c_lshr q4 (3 : Int32) 3 (by decide)
    (try rw [← hn1_] at f2)
    (try simp only [Int64.reduceToInt, Int32.reduceToInt] at f2)
    have e0 := congrArg Int64.toInt z0
    (try simp only [Int64.lt_iff_toInt_lt, Int32.lt_iff_toInt_lt, Int64.le_iff_toInt_le, Int32.le_iff_toInt_le, ← Int64.toInt_inj, ← Int32.toInt_inj, apply_ite Int64.toInt, apply_ite Int32.toInt, Int64.reduceToInt, Int32.reduceToInt, ne_eq, true_and, and_true, false_or, or_false, iff_self, and_self, not_true_eq_false, not_false_eq_true] at e0)
    omega
  refine g_lstore X at_10 rfl (q := 12) (L' := #[.val (.long q1), .second, .val (.long q2), .second, .val (.long q3), .second, .val (.long q4), .second, .val (.long q5), .second, .val (.long q6), .second, .val (.long x4), .second, .val (.long x10), .second, .unset, .unset, .unset, .unset, .unset, .unset, .unset, .unset, .unset, .unset, .unset, .unset, .unset, .unset, .unset, .unset, .unset]) rfl ?_
  refine g_lload X at_12 rfl (q := 14) rfl ?_
  refine g_iconst X at_14 rfl (q := 15) (v := 3) rfl ?_
  refine g_lshr X at_15 rfl (q := 16) ?_
  refine g_letJ (fun x16 hx16 => ?_)
  have b_x16 : (-1152921504606846976 : Int) ≤ x16.toInt ∧ x16.toInt ≤ 1152921504606846975 := by
    have z0 := hx16
    have f1 := rng64 q5
    obtain ⟨n1_, hn1_⟩ : ∃ z, z = (q5 >>> ((3 : Int32) &&& 0x3f).toInt64) := ⟨_, rfl⟩
    (try simp only [← hn1_] at z0)
    have f2 := c_lshr q5 (3 : Int32) 3 (by decide)
    (try rw [← hn1_] at f2)
    (try simp only [Int64.reduceToInt, Int32.reduceToInt] at f2)
    have e0 := congrArg Int64.toInt z0
    (try simp only [Int64.lt_iff_toInt_lt, Int32.lt_iff_toInt_lt, Int64.le_iff_toInt_le, Int32.le_iff_toInt_le, ← Int64.toInt_inj, ← Int32.toInt_inj, apply_ite Int64.toInt, apply_ite Int32.toInt, Int64.reduceToInt, Int32.reduceToInt, ne_eq, true_and, and_true, false_or, or_false, iff_self, and_self, not_true_eq_false, not_false_eq_true] at e0)
    omega
  refine g_lstore X at_16 rfl (q := 18) (L' := #[.val (.long q1), .second, .val (.long q2), .second, .val (.long q3), .second, .val (.long q4), .second, .val (.long q5), .second, .val (.long q6), .second, .val (.long x4), .second, .val (.long x10), .second, .val (.long x16), .second, .unset, .unset, .unset, .unset, .unset, .unset, .unset, .unset, .unset, .unset, .unset, .unset, .unset, .unset, .unset]) rfl ?_
  refine g_lload X at_18 rfl (q := 20) rfl ?_
  refine g_ldc2 X (tw0 hw) at_20 (q := 23) rfl ?_
  refine g_land X at_23 rfl (q := 24) ?_
  refine g_letJ (fun x24 hx24 => ?_)
  have b_x24 : (0 : Int) ≤ x24.toInt ∧ x24.toInt ≤ 3 := by
    have z0 := hx24
    have f1 := rng64 q6
    obtain ⟨n1_, hn1_⟩ : ∃ z, z = (q6 &&& (3 : Int64)) := ⟨_, rfl⟩
    (try simp only [← hn1_] at z0)
    have f2 := own_mBL q6 (3 : Int64) 2 (by decide) (by decide) 3 (by decide)
    (try rw [← hn1_] at f2)
    have e0 := congrArg Int64.toInt z0
    (try simp only [Int64.lt_iff_toInt_lt, Int32.lt_iff_toInt_lt, Int64.le_iff_toInt_le, Int32.le_iff_toInt_le, ← Int64.toInt_inj, ← Int32.toInt_inj, apply_ite Int64.toInt, apply_ite Int32.toInt, Int64.reduceToInt, Int32.reduceToInt, ne_eq, true_and, and_true, false_or, or_false, iff_self, and_self, not_true_eq_false, not_false_eq_true] at e0)
    omega
  refine g_lstore X at_24 rfl (q := 26) (L' := #[.val (.long q1), .second, .val (.long q2), .second, .val (.long q3), .second, .val (.long q4), .second, .val (.long q5), .second, .val (.long q6), .second, .val (.long x4), .second, .val (.long x10), .second, .val (.long x16), .second, .val (.long x24), .second, .unset, .unset, .unset, .unset, .unset, .unset, .unset, .unset, .unset, .unset, .unset, .unset, .unset]) rfl ?_
  refine g_lload X at_26 rfl (q := 28) rfl ?_
  refine g_lconst X at_28 rfl (q := 29) (v := 0) rfl ?_
  refine g_jT1 X (J := 98) (P := fun (l20_98 : Int64) => l20_98 = (if x24 = (0 : Int64) then ((x4 + x10) - x16) else (if x24 = (1 : Int64) then (((x4 + x10) - x16) - (1 : Int64)) else (if x24 = (2 : Int64) then (((x4 + x10) - x16) + (1 : Int64)) else (q6 >>> ((3 : Int32) &&& 0x3f).toInt64))))) (L := fun l20_98 => #[.val (.long q1), .second, .val (.long q2), .second, .val (.long q3), .second, .val (.long q4), .second, .val (.long q5), .second, .val (.long q6), .second, .val (.long x4), .second, .val (.long x10), .second, .val (.long x16), .second, .val (.long x24), .second, .val (.long l20_98), .second, .unset, .unset, .unset, .unset, .unset, .unset, .unset, .unset, .unset, .unset, .unset]) (S := fun l20_98 => []) ?_ ?_
  · intro T X l20_98 hl20_98
    replace hl20_98 : l20_98 = (if x24 = (0 : Int64) then ((x4 + x10) - x16) else (if x24 = (1 : Int64) then (((x4 + x10) - x16) - (1 : Int64)) else (if x24 = (2 : Int64) then (((x4 + x10) - x16) + (1 : Int64)) else (q6 >>> ((3 : Int32) &&& 0x3f).toInt64)))) := hl20_98
    show Goes p e below s _ n0 _ (T.setTop (mkF m 98 #[.val (.long q1), .second, .val (.long q2), .second, .val (.long q3), .second, .val (.long q4), .second, .val (.long q5), .second, .val (.long q6), .second, .val (.long x4), .second, .val (.long x10), .second, .val (.long x16), .second, .val (.long x24), .second, .val (.long l20_98), .second, .unset, .unset, .unset, .unset, .unset, .unset, .unset, .unset, .unset, .unset, .unset] []))
    have b_l20_98 : (-3458764513820540928 : Int) ≤ l20_98.toInt ∧ l20_98.toInt ≤ 3458764513820540927 := by
      have z0 := hl20_98
      obtain ⟨n1_, hn1_⟩ : ∃ z, z = (x4 + x10) := ⟨_, rfl⟩
      (try simp only [← hn1_] at z0)
      have f1 := own_laddE x4 x10 (by (try simp only [Int64.reduceToInt, Int32.reduceToInt]); omega)
      (try rw [← hn1_] at f1)
      obtain ⟨n2_, hn2_⟩ : ∃ z, z = (n1_ - x16) := ⟨_, rfl⟩
      (try simp only [← hn2_] at z0)
      have f2 := own_lsubE n1_ x16 (by (try simp only [Int64.reduceToInt, Int32.reduceToInt]); omega)
      (try rw [← hn2_] at f2)
      obtain ⟨n3_, hn3_⟩ : ∃ z, z = (n2_ - (1 : Int64)) := ⟨_, rfl⟩
      (try simp only [← hn3_] at z0)
      have f3 := own_lsubE n2_ (1 : Int64) (by (try simp only [Int64.reduceToInt, Int32.reduceToInt]); omega)
      (try rw [← hn3_] at f3)
      (try simp only [Int64.reduceToInt, Int32.reduceToInt] at f3)
      obtain ⟨n4_, hn4_⟩ : ∃ z, z = (n2_ + (1 : Int64)) := ⟨_, rfl⟩
      (try simp only [← hn4_] at z0)
      have f4 := own_laddE n2_ (1 : Int64) (by (try simp only [Int64.reduceToInt, Int32.reduceToInt]); omega)
      (try rw [← hn4_] at f4)
      (try simp only [Int64.reduceToInt, Int32.reduceToInt] at f4)
      have f5 := rng64 q6
      obtain ⟨n5_, hn5_⟩ : ∃ z, z = (q6 >>> ((3 : Int32) &&& 0x3f).toInt64) := ⟨_, rfl⟩
      (try simp only [← hn5_] at z0)
      have f6 := c_lshr q6 (3 : Int32) 3 (by decide)
      (try rw [← hn5_] at f6)
      (try simp only [Int64.reduceToInt, Int32.reduceToInt] at f6)
      have e0 := congrArg Int64.toInt z0
      (try simp only [Int64.lt_iff_toInt_lt, Int32.lt_iff_toInt_lt, Int64.le_iff_toInt_le, Int32.le_iff_toInt_le, ← Int64.toInt_inj, ← Int32.toInt_inj, apply_ite Int64.toInt, apply_ite Int32.toInt, Int64.reduceToInt, Int32.reduceToInt, ne_eq, true_and, and_true, false_or, or_false, iff_self, and_self, not_true_eq_false, not_false_eq_true] at e0)
      omega
    refine g_lloadN X at_98 rfl (q := 99) rfl ?_
    refine g_lloadN X at_99 rfl (q := 100) rfl ?_
    refine g_lxor X at_100 rfl (q := 101) ?_
    refine g_letJ (fun x101 hx101 => ?_)
    refine g_lstore X at_101 rfl (q := 103) (L' := #[.val (.long q1), .second, .val (.long q2), .second, .val (.long q3), .second, .val (.long q4), .second, .val (.long q5), .second, .val (.long q6), .second, .val (.long x4), .second, .val (.long x10), .second, .val (.long x16), .second, .val (.long x24), .second, .val (.long l20_98), .second, .val (.long x101), .second, .unset, .unset, .unset, .unset, .unset, .unset, .unset, .unset, .unset]) rfl ?_
    refine g_lloadN X at_103 rfl (q := 104) rfl ?_
    refine g_bipush X at_104 rfl (q := 106) (v := 32) rfl ?_
    refine g_lushr X at_106 rfl (q := 107) ?_
    refine g_l2i X at_107 rfl (q := 108) ?_
    refine g_letI (fun x108 hx108 => ?_)
    refine g_istore X at_108 rfl (q := 110) (L' := #[.val (.long q1), .second, .val (.long q2), .second, .val (.long q3), .second, .val (.long q4), .second, .val (.long q5), .second, .val (.long q6), .second, .val (.long x4), .second, .val (.long x10), .second, .val (.long x16), .second, .val (.long x24), .second, .val (.long l20_98), .second, .val (.long x101), .second, .val (.int x108), .unset, .unset, .unset, .unset, .unset, .unset, .unset, .unset]) rfl ?_
    refine g_lloadN X at_110 rfl (q := 111) rfl ?_
    refine g_lconst X at_111 rfl (q := 112) (v := 1) rfl ?_
    refine g_land X at_112 rfl (q := 113) ?_
    refine g_lconst X at_113 rfl (q := 114) (v := 0) rfl ?_
    refine g_jT1 X (J := 123) (P := fun (s0_123 : Int32) => s0_123 = (bI (¬ ((q1 &&& (1 : Int64)) = (0 : Int64))))) (L := fun s0_123 => #[.val (.long q1), .second, .val (.long q2), .second, .val (.long q3), .second, .val (.long q4), .second, .val (.long q5), .second, .val (.long q6), .second, .val (.long x4), .second, .val (.long x10), .second, .val (.long x16), .second, .val (.long x24), .second, .val (.long l20_98), .second, .val (.long x101), .second, .val (.int x108), .unset, .unset, .unset, .unset, .unset, .unset, .unset, .unset]) (S := fun s0_123 => [(.int s0_123)]) ?_ ?_
    · intro T X s0_123 hs0_123
      replace hs0_123 : s0_123 = (bI (¬ ((q1 &&& (1 : Int64)) = (0 : Int64)))) := hs0_123
      subst hs0_123
      show Goes p e below s _ n0 _ (T.setTop (mkF m 123 #[.val (.long q1), .second, .val (.long q2), .second, .val (.long q3), .second, .val (.long q4), .second, .val (.long q5), .second, .val (.long q6), .second, .val (.long x4), .second, .val (.long x10), .second, .val (.long x16), .second, .val (.long x24), .second, .val (.long l20_98), .second, .val (.long x101), .second, .val (.int x108), .unset, .unset, .unset, .unset, .unset, .unset, .unset, .unset] [(.int (bI (¬ ((q1 &&& (1 : Int64)) = (0 : Int64)))))]))
      refine g_istore X at_123 rfl (q := 125) (L' := #[.val (.long q1), .second, .val (.long q2), .second, .val (.long q3), .second, .val (.long q4), .second, .val (.long q5), .second, .val (.long q6), .second, .val (.long x4), .second, .val (.long x10), .second, .val (.long x16), .second, .val (.long x24), .second, .val (.long l20_98), .second, .val (.long x101), .second, .val (.int x108), .val (.int (bI (¬ ((q1 &&& (1 : Int64)) = (0 : Int64))))), .unset, .unset, .unset, .unset, .unset, .unset, .unset]) rfl ?_
      refine g_new X (tw2 hw) (tw3 hw) (tw4 hw) at_125 (q := 128) rfl (c2 := 1) (s2 := 7) rfl rfl (by decide) (by decide) (fun T h' b2 X gz_b2 g_b2 E Ex D => ?_)
      have O_b2 : O_Grant Z h' b2 (.long (0 : Int64)) (.long (0 : Int64)) (.long (0 : Int64)) (.long (0 : Int64)) (.long (0 : Int64)) (.int (0 : Int32)) (.int (0 : Int32)) := ⟨Ex, D (Or.inr (tw17 hw)) (ty := .long) (by decide), D (Or.inr (tw19 hw)) (ty := .long) (by decide), D (Or.inr (tw21 hw)) (ty := .long) (by decide), D (Or.inr (tw23 hw)) (ty := .long) (by decide), D (Or.inr (tw25 hw)) (ty := .long) (by decide), D (Or.inr (tw27 hw)) (ty := .int) (by decide), D (Or.inr (tw29 hw)) (ty := .boolean) (by decide)⟩
      refine g_dup X at_128 rfl (q := 129) rfl ?_
      refine g_lloadN X at_129 rfl (q := 130) rfl ?_
      refine g_lloadN X at_130 rfl (q := 131) rfl ?_
      refine g_lload X at_131 rfl (q := 133) rfl ?_
      refine g_lload X at_133 rfl (q := 135) rfl ?_
      refine g_lload X at_135 rfl (q := 137) rfl ?_
      refine g_iload X at_137 rfl (q := 139) rfl ?_
      refine g_iload X at_139 rfl (q := 141) rfl ?_
      refine g_callI X [(.long q1), (.long q2), (.long x101), (.long x4), (.long x10), (.int x108), (.int (bI (¬ ((q1 &&& (1 : Int64)) = (0 : Int64)))))] [(.ref b2)] rfl (tw5 hw) (tw6 hw) (tw4 hw) (tw7 hw) (by decide) (rm1 l Z a0 hw [] b2 q1 q2 x101 x4 x10 x108 (¬ ((q1 &&& (1 : Int64)) = (0 : Int64))) _ n0 X.size O_b2 g_b2) pd1 rfl rfl rfl at_141 (q := 144) rfl (W := 1) rfl (by decide) (by decide) (c2 := 1) (s2 := 7) rfl rfl (by decide) (by decide) (fun v T h' X hQ => ?_)
      obtain ⟨rfl, Kc, O_b2'⟩ := hQ
      have O_b2 := O_b2'
      show Goes p e below s _ n0 _ (T.setTop (mkF m 144 #[.val (.long q1), .second, .val (.long q2), .second, .val (.long q3), .second, .val (.long q4), .second, .val (.long q5), .second, .val (.long q6), .second, .val (.long x4), .second, .val (.long x10), .second, .val (.long x16), .second, .val (.long x24), .second, .val (.long l20_98), .second, .val (.long x101), .second, .val (.int x108), .val (.int (bI (¬ ((q1 &&& (1 : Int64)) = (0 : Int64))))), .unset, .unset, .unset, .unset, .unset, .unset, .unset] [(.ref b2)]))
      refine g_astore X at_144 rfl (q := 146) (L' := #[.val (.long q1), .second, .val (.long q2), .second, .val (.long q3), .second, .val (.long q4), .second, .val (.long q5), .second, .val (.long q6), .second, .val (.long x4), .second, .val (.long x10), .second, .val (.long x16), .second, .val (.long x24), .second, .val (.long l20_98), .second, .val (.long x101), .second, .val (.int x108), .val (.int (bI (¬ ((q1 &&& (1 : Int64)) = (0 : Int64))))), .val (.ref b2), .unset, .unset, .unset, .unset, .unset, .unset]) rfl rfl ?_
      refine g_aload X at_146 rfl (q := 148) rfl rfl ?_
      refine g_lload X at_148 rfl (q := 150) rfl ?_
      refine g_lload X at_150 rfl (q := 152) rfl ?_
      refine g_callV X O_b2.1 [(.long x16), (.long l20_98)] [] (tw30 hw) (tw31 hw) (tw33 hw) (tw32 hw) (tw4 hw) (tw34 hw) (by decide) (rm4 l Z a0 hw [] b2 x16 l20_98 q1 q2 x101 x4 x10 x108 (¬ ((q1 &&& (1 : Int64)) = (0 : Int64))) _ n0 X.size O_b2) pd2 rfl rfl rfl at_152 (q := 155) rfl (W := 0) rfl (by decide) (by decide) (c2 := 2) (s2 := 14) rfl rfl (by decide) (by decide) (fun v T h' X hQ => ?_)
      obtain ⟨b3, rfl, Kc, M_b3⟩ := hQ
      have O_b2 := O_b2.keep Kc nin0
      have O_b3 := M_b3
      show Goes p e below s _ n0 _ (T.setTop (mkF m 155 #[.val (.long q1), .second, .val (.long q2), .second, .val (.long q3), .second, .val (.long q4), .second, .val (.long q5), .second, .val (.long q6), .second, .val (.long x4), .second, .val (.long x10), .second, .val (.long x16), .second, .val (.long x24), .second, .val (.long l20_98), .second, .val (.long x101), .second, .val (.int x108), .val (.int (bI (¬ ((q1 &&& (1 : Int64)) = (0 : Int64))))), .val (.ref b2), .unset, .unset, .unset, .unset, .unset, .unset] [(.ref b3)]))
      refine g_astore X at_155 rfl (q := 157) (L' := #[.val (.long q1), .second, .val (.long q2), .second, .val (.long q3), .second, .val (.long q4), .second, .val (.long q5), .second, .val (.long q6), .second, .val (.long x4), .second, .val (.long x10), .second, .val (.long x16), .second, .val (.long x24), .second, .val (.long l20_98), .second, .val (.long x101), .second, .val (.int x108), .val (.int (bI (¬ ((q1 &&& (1 : Int64)) = (0 : Int64))))), .val (.ref b2), .val (.ref b3), .unset, .unset, .unset, .unset, .unset]) rfl rfl ?_
      refine g_lload X at_157 rfl (q := 159) rfl ?_
      refine g_lload X at_159 rfl (q := 161) rfl ?_
      refine g_ladd X at_161 rfl (q := 162) ?_
      refine g_lload X at_162 rfl (q := 164) rfl ?_
      refine g_lload X at_164 rfl (q := 166) rfl ?_
      refine g_ladd X at_166 rfl (q := 167) ?_
      refine g_jT1 X (J := 176) (P := fun (s0_176 : Int32) => s0_176 = (bI (¬ ((x16 + l20_98) < (x4 + x10))))) (L := fun s0_176 => #[.val (.long q1), .second, .val (.long q2), .second, .val (.long q3), .second, .val (.long q4), .second, .val (.long q5), .second, .val (.long q6), .second, .val (.long x4), .second, .val (.long x10), .second, .val (.long x16), .second, .val (.long x24), .second, .val (.long l20_98), .second, .val (.long x101), .second, .val (.int x108), .val (.int (bI (¬ ((q1 &&& (1 : Int64)) = (0 : Int64))))), .val (.ref b2), .val (.ref b3), .unset, .unset, .unset, .unset, .unset]) (S := fun s0_176 => [(.int s0_176)]) ?_ ?_
      · intro T X s0_176 hs0_176
        replace hs0_176 : s0_176 = (bI (¬ ((x16 + l20_98) < (x4 + x10)))) := hs0_176
        subst hs0_176
        show Goes p e below s _ n0 _ (T.setTop (mkF m 176 #[.val (.long q1), .second, .val (.long q2), .second, .val (.long q3), .second, .val (.long q4), .second, .val (.long q5), .second, .val (.long q6), .second, .val (.long x4), .second, .val (.long x10), .second, .val (.long x16), .second, .val (.long x24), .second, .val (.long l20_98), .second, .val (.long x101), .second, .val (.int x108), .val (.int (bI (¬ ((q1 &&& (1 : Int64)) = (0 : Int64))))), .val (.ref b2), .val (.ref b3), .unset, .unset, .unset, .unset, .unset] [(.int (bI (¬ ((x16 + l20_98) < (x4 + x10)))))]))
        refine g_istore X at_176 rfl (q := 178) (L' := #[.val (.long q1), .second, .val (.long q2), .second, .val (.long q3), .second, .val (.long q4), .second, .val (.long q5), .second, .val (.long q6), .second, .val (.long x4), .second, .val (.long x10), .second, .val (.long x16), .second, .val (.long x24), .second, .val (.long l20_98), .second, .val (.long x101), .second, .val (.int x108), .val (.int (bI (¬ ((q1 &&& (1 : Int64)) = (0 : Int64))))), .val (.ref b2), .val (.ref b3), .val (.int (bI (¬ ((x16 + l20_98) < (x4 + x10))))), .unset, .unset, .unset, .unset]) rfl ?_
        refine g_iload X at_178 rfl (q := 180) rfl ?_
        refine g_jT1 X (J := 190) (P := fun (s0_190 : Int64) => s0_190 = (if ¬ ((x16 + l20_98) < (x4 + x10)) then x4 else x16)) (L := fun s0_190 => #[.val (.long q1), .second, .val (.long q2), .second, .val (.long q3), .second, .val (.long q4), .second, .val (.long q5), .second, .val (.long q6), .second, .val (.long x4), .second, .val (.long x10), .second, .val (.long x16), .second, .val (.long x24), .second, .val (.long l20_98), .second, .val (.long x101), .second, .val (.int x108), .val (.int (bI (¬ ((q1 &&& (1 : Int64)) = (0 : Int64))))), .val (.ref b2), .val (.ref b3), .val (.int (bI (¬ ((x16 + l20_98) < (x4 + x10))))), .unset, .unset, .unset, .unset]) (S := fun s0_190 => [(.long s0_190)]) ?_ ?_
        · intro T X s0_190 hs0_190
          replace hs0_190 : s0_190 = (if ¬ ((x16 + l20_98) < (x4 + x10)) then x4 else x16) := hs0_190
          show Goes p e below s _ n0 _ (T.setTop (mkF m 190 #[.val (.long q1), .second, .val (.long q2), .second, .val (.long q3), .second, .val (.long q4), .second, .val (.long q5), .second, .val (.long q6), .second, .val (.long x4), .second, .val (.long x10), .second, .val (.long x16), .second, .val (.long x24), .second, .val (.long l20_98), .second, .val (.long x101), .second, .val (.int x108), .val (.int (bI (¬ ((q1 &&& (1 : Int64)) = (0 : Int64))))), .val (.ref b2), .val (.ref b3), .val (.int (bI (¬ ((x16 + l20_98) < (x4 + x10))))), .unset, .unset, .unset, .unset] [(.long s0_190)]))
          have b_s0_190 : (-1152921504606846976 : Int) ≤ s0_190.toInt ∧ s0_190.toInt ≤ 1152921504606846975 := by
            have z0 := hs0_190
            obtain ⟨n1_, hn1_⟩ : ∃ z, z = (x16 + l20_98) := ⟨_, rfl⟩
            (try simp only [← hn1_] at z0)
            have f1 := own_laddE x16 l20_98 (by (try simp only [Int64.reduceToInt, Int32.reduceToInt]); omega)
            (try rw [← hn1_] at f1)
            obtain ⟨n2_, hn2_⟩ : ∃ z, z = (x4 + x10) := ⟨_, rfl⟩
            (try simp only [← hn2_] at z0)
            have f2 := own_laddE x4 x10 (by (try simp only [Int64.reduceToInt, Int32.reduceToInt]); omega)
            (try rw [← hn2_] at f2)
            have e0 := congrArg Int64.toInt z0
            (try simp only [Int64.lt_iff_toInt_lt, Int32.lt_iff_toInt_lt, Int64.le_iff_toInt_le, Int32.le_iff_toInt_le, ← Int64.toInt_inj, ← Int32.toInt_inj, apply_ite Int64.toInt, apply_ite Int32.toInt, Int64.reduceToInt, Int32.reduceToInt, ne_eq, true_and, and_true, false_or, or_false, iff_self, and_self, not_true_eq_false, not_false_eq_true] at e0)
            omega
          refine g_lstore X at_190 rfl (q := 192) (L' := #[.val (.long q1), .second, .val (.long q2), .second, .val (.long q3), .second, .val (.long q4), .second, .val (.long q5), .second, .val (.long q6), .second, .val (.long x4), .second, .val (.long x10), .second, .val (.long x16), .second, .val (.long x24), .second, .val (.long l20_98), .second, .val (.long x101), .second, .val (.int x108), .val (.int (bI (¬ ((q1 &&& (1 : Int64)) = (0 : Int64))))), .val (.ref b2), .val (.ref b3), .val (.int (bI (¬ ((x16 + l20_98) < (x4 + x10))))), .val (.long s0_190), .second, .unset, .unset]) rfl ?_
          refine g_iload X at_192 rfl (q := 194) rfl ?_
          refine g_jT1 X (J := 204) (P := fun (s0_204 : Int64) => s0_204 = (if ¬ ((x16 + l20_98) < (x4 + x10)) then x10 else l20_98)) (L := fun s0_204 => #[.val (.long q1), .second, .val (.long q2), .second, .val (.long q3), .second, .val (.long q4), .second, .val (.long q5), .second, .val (.long q6), .second, .val (.long x4), .second, .val (.long x10), .second, .val (.long x16), .second, .val (.long x24), .second, .val (.long l20_98), .second, .val (.long x101), .second, .val (.int x108), .val (.int (bI (¬ ((q1 &&& (1 : Int64)) = (0 : Int64))))), .val (.ref b2), .val (.ref b3), .val (.int (bI (¬ ((x16 + l20_98) < (x4 + x10))))), .val (.long s0_190), .second, .unset, .unset]) (S := fun s0_204 => [(.long s0_204)]) ?_ ?_
          · intro T X s0_204 hs0_204
            replace hs0_204 : s0_204 = (if ¬ ((x16 + l20_98) < (x4 + x10)) then x10 else l20_98) := hs0_204
            show Goes p e below s _ n0 _ (T.setTop (mkF m 204 #[.val (.long q1), .second, .val (.long q2), .second, .val (.long q3), .second, .val (.long q4), .second, .val (.long q5), .second, .val (.long q6), .second, .val (.long x4), .second, .val (.long x10), .second, .val (.long x16), .second, .val (.long x24), .second, .val (.long l20_98), .second, .val (.long x101), .second, .val (.int x108), .val (.int (bI (¬ ((q1 &&& (1 : Int64)) = (0 : Int64))))), .val (.ref b2), .val (.ref b3), .val (.int (bI (¬ ((x16 + l20_98) < (x4 + x10))))), .val (.long s0_190), .second, .unset, .unset] [(.long s0_204)]))
            have b_s0_204 : (-3458764513820540928 : Int) ≤ s0_204.toInt ∧ s0_204.toInt ≤ 3458764513820540927 := by
              have z0 := hs0_204
              obtain ⟨n1_, hn1_⟩ : ∃ z, z = (x16 + l20_98) := ⟨_, rfl⟩
              (try simp only [← hn1_] at z0)
              have f1 := own_laddE x16 l20_98 (by (try simp only [Int64.reduceToInt, Int32.reduceToInt]); omega)
              (try rw [← hn1_] at f1)
              obtain ⟨n2_, hn2_⟩ : ∃ z, z = (x4 + x10) := ⟨_, rfl⟩
              (try simp only [← hn2_] at z0)
              have f2 := own_laddE x4 x10 (by (try simp only [Int64.reduceToInt, Int32.reduceToInt]); omega)
              (try rw [← hn2_] at f2)
              have e0 := congrArg Int64.toInt z0
              (try simp only [Int64.lt_iff_toInt_lt, Int32.lt_iff_toInt_lt, Int64.le_iff_toInt_le, Int32.le_iff_toInt_le, ← Int64.toInt_inj, ← Int32.toInt_inj, apply_ite Int64.toInt, apply_ite Int32.toInt, Int64.reduceToInt, Int32.reduceToInt, ne_eq, true_and, and_true, false_or, or_false, iff_self, and_self, not_true_eq_false, not_false_eq_true] at e0)
              omega
            refine g_lstore X at_204 rfl (q := 206) (L' := #[.val (.long q1), .second, .val (.long q2), .second, .val (.long q3), .second, .val (.long q4), .second, .val (.long q5), .second, .val (.long q6), .second, .val (.long x4), .second, .val (.long x10), .second, .val (.long x16), .second, .val (.long x24), .second, .val (.long l20_98), .second, .val (.long x101), .second, .val (.int x108), .val (.int (bI (¬ ((q1 &&& (1 : Int64)) = (0 : Int64))))), .val (.ref b2), .val (.ref b3), .val (.int (bI (¬ ((x16 + l20_98) < (x4 + x10))))), .val (.long s0_190), .second, .val (.long s0_204), .second]) rfl ?_
            refine g_aload X at_206 rfl (q := 208) rfl rfl ?_
            refine g_ifnonnullY X at_208 (by decide) (q := 213) rfl ?_
            refine g_aload X at_213 rfl (q := 215) rfl rfl ?_
            refine g_callV X O_b3.1 [] [] (tw35 hw) (tw36 hw) (tw38 hw) (tw37 hw) (tw4 hw) (tw39 hw) (by decide) (rm5 l Z a0 hw [] b3 q1 q2 x101 (if (l20_98 - x10) < (x4 - x16) then x16 else x4) (if (l20_98 - x10) < (x4 - x16) then l20_98 else x10) x108 (¬ ((q1 &&& (1 : Int64)) = (0 : Int64))) _ n0 X.size O_b3) pd3 rfl rfl rfl at_215 (q := 218) rfl (W := 0) rfl (by decide) (by decide) (c2 := 2) (s2 := 14) rfl rfl (by decide) (by decide) (fun v T h' X hQ => ?_)
            obtain ⟨rfl, rfl⟩ := hQ
            show Goes p e below s _ n0 _ (T.setTop (mkF m 218 #[.val (.long q1), .second, .val (.long q2), .second, .val (.long q3), .second, .val (.long q4), .second, .val (.long q5), .second, .val (.long q6), .second, .val (.long x4), .second, .val (.long x10), .second, .val (.long x16), .second, .val (.long x24), .second, .val (.long l20_98), .second, .val (.long x101), .second, .val (.int x108), .val (.int (bI (¬ ((q1 &&& (1 : Int64)) = (0 : Int64))))), .val (.ref b2), .val (.ref b3), .val (.int (bI (¬ ((x16 + l20_98) < (x4 + x10))))), .val (.long s0_190), .second, .val (.long s0_204), .second] [(.long q1)]))
            refine g_lloadN X at_218 rfl (q := 219) rfl ?_
            refine g_jT1 X (J := 291) (P := fun (s0_291 : Int32) => s0_291 = (bI ((q1 = q1) ∧ ((q2 = q2) ∧ ((x101 = x101) ∧ (((if (l20_98 - x10) < (x4 - x16) then x16 else x4) = s0_190) ∧ (((if (l20_98 - x10) < (x4 - x16) then l20_98 else x10) = s0_204) ∧ ((x108 = x108) ∧ (((¬ ((q1 &&& (1 : Int64)) = (0 : Int64)))) ↔ (¬ ((q1 &&& (1 : Int64)) = (0 : Int64)))))))))))) (L := fun s0_291 => #[.val (.long q1), .second, .val (.long q2), .second, .val (.long q3), .second, .val (.long q4), .second, .val (.long q5), .second, .val (.long q6), .second, .val (.long x4), .second, .val (.long x10), .second, .val (.long x16), .second, .val (.long x24), .second, .val (.long l20_98), .second, .val (.long x101), .second, .val (.int x108), .val (.int (bI (¬ ((q1 &&& (1 : Int64)) = (0 : Int64))))), .val (.ref b2), .val (.ref b3), .val (.int (bI (¬ ((x16 + l20_98) < (x4 + x10))))), .val (.long s0_190), .second, .val (.long s0_204), .second]) (S := fun s0_291 => [(.int s0_291)]) ?_ ?_
            · intro T X s0_291 hs0_291
              replace hs0_291 : s0_291 = (bI ((q1 = q1) ∧ ((q2 = q2) ∧ ((x101 = x101) ∧ (((if (l20_98 - x10) < (x4 - x16) then x16 else x4) = s0_190) ∧ (((if (l20_98 - x10) < (x4 - x16) then l20_98 else x10) = s0_204) ∧ ((x108 = x108) ∧ (((¬ ((q1 &&& (1 : Int64)) = (0 : Int64)))) ↔ (¬ ((q1 &&& (1 : Int64)) = (0 : Int64))))))))))) := hs0_291
              subst hs0_291
              show Goes p e below s _ n0 _ (T.setTop (mkF m 291 #[.val (.long q1), .second, .val (.long q2), .second, .val (.long q3), .second, .val (.long q4), .second, .val (.long q5), .second, .val (.long q6), .second, .val (.long x4), .second, .val (.long x10), .second, .val (.long x16), .second, .val (.long x24), .second, .val (.long l20_98), .second, .val (.long x101), .second, .val (.int x108), .val (.int (bI (¬ ((q1 &&& (1 : Int64)) = (0 : Int64))))), .val (.ref b2), .val (.ref b3), .val (.int (bI (¬ ((x16 + l20_98) < (x4 + x10))))), .val (.long s0_190), .second, .val (.long s0_204), .second] [(.int (bI ((q1 = q1) ∧ ((q2 = q2) ∧ ((x101 = x101) ∧ (((if (l20_98 - x10) < (x4 - x16) then x16 else x4) = s0_190) ∧ (((if (l20_98 - x10) < (x4 - x16) then l20_98 else x10) = s0_204) ∧ ((x108 = x108) ∧ (((¬ ((q1 &&& (1 : Int64)) = (0 : Int64)))) ↔ (¬ ((q1 &&& (1 : Int64)) = (0 : Int64))))))))))))]))
              refine g_retZ X at_291 (by decide) (by decide) (bI_01 _) (own_fin ?_)
              show (q1 = q1) ∧ ((q2 = q2) ∧ ((x101 = x101) ∧ (((if (l20_98 - x10) < (x4 - x16) then x16 else x4) = s0_190) ∧ (((if (l20_98 - x10) < (x4 - x16) then l20_98 else x10) = s0_204) ∧ ((x108 = x108) ∧ (((¬ ((q1 &&& (1 : Int64)) = (0 : Int64)))) ↔ (¬ ((q1 &&& (1 : Int64)) = (0 : Int64)))))))))
              have key : ((l20_98 - x10) < (x4 - x16)) ↔ ((x16 + l20_98) < (x4 + x10)) := by
                obtain ⟨n1_, hn1_⟩ : ∃ z, z = (l20_98 - x10) := ⟨_, rfl⟩
                (try simp only [← hn1_] at ⊢)
                have f1 := own_lsubE l20_98 x10 (by (try simp only [Int64.reduceToInt, Int32.reduceToInt]); omega)
                (try rw [← hn1_] at f1)
                obtain ⟨n2_, hn2_⟩ : ∃ z, z = (x4 - x16) := ⟨_, rfl⟩
                (try simp only [← hn2_] at ⊢)
                have f2 := own_lsubE x4 x16 (by (try simp only [Int64.reduceToInt, Int32.reduceToInt]); omega)
                (try rw [← hn2_] at f2)
                obtain ⟨n3_, hn3_⟩ : ∃ z, z = (x16 + l20_98) := ⟨_, rfl⟩
                (try simp only [← hn3_] at ⊢)
                have f3 := own_laddE x16 l20_98 (by (try simp only [Int64.reduceToInt, Int32.reduceToInt]); omega)
                (try rw [← hn3_] at f3)
                obtain ⟨n4_, hn4_⟩ : ∃ z, z = (x4 + x10) := ⟨_, rfl⟩
                (try simp only [← hn4_] at ⊢)
                have f4 := own_laddE x4 x10 (by (try simp only [Int64.reduceToInt, Int32.reduceToInt]); omega)
                (try rw [← hn4_] at f4)
                (try simp only [Int64.lt_iff_toInt_lt, Int32.lt_iff_toInt_lt, Int64.le_iff_toInt_le, Int32.le_iff_toInt_le, ← Int64.toInt_inj, ← Int32.toInt_inj, apply_ite Int64.toInt, apply_ite Int32.toInt, Int64.reduceToInt, Int32.reduceToInt, ne_eq, true_and, and_true, false_or, or_false, iff_self, and_self, not_true_eq_false, not_false_eq_true]) <;> omega
              simp only [hs0_190, hs0_204, key]
              by_cases hk : (x16 + l20_98) < (x4 + x10)
              · simp [hk]
              · simp [hk]
            · intro J291_0
              refine g_lcmpB X at_219 (q1 := 220) rfl at_220 (Or.inr (Or.inr rfl)) (q := 223) rfl (by decide) (t := 290) rfl (fun (c1 : q1 = q1) => ?_) (fun (c1 : ¬ (q1 = q1)) => ?_)
              · skip
                refine g_aload X at_223 rfl (q := 225) rfl rfl ?_
                refine g_callV X O_b3.1 [] [] (tw40 hw) (tw41 hw) (tw43 hw) (tw42 hw) (tw4 hw) (tw44 hw) (by decide) (rm6 l Z a0 hw [] b3 q1 q2 x101 (if (l20_98 - x10) < (x4 - x16) then x16 else x4) (if (l20_98 - x10) < (x4 - x16) then l20_98 else x10) x108 (¬ ((q1 &&& (1 : Int64)) = (0 : Int64))) _ n0 X.size O_b3) pd3 rfl rfl rfl at_225 (q := 228) rfl (W := 0) rfl (by decide) (by decide) (c2 := 2) (s2 := 14) rfl rfl (by decide) (by decide) (fun v T h' X hQ => ?_)
                obtain ⟨rfl, rfl⟩ := hQ
                show Goes p e below s _ n0 _ (T.setTop (mkF m 228 #[.val (.long q1), .second, .val (.long q2), .second, .val (.long q3), .second, .val (.long q4), .second, .val (.long q5), .second, .val (.long q6), .second, .val (.long x4), .second, .val (.long x10), .second, .val (.long x16), .second, .val (.long x24), .second, .val (.long l20_98), .second, .val (.long x101), .second, .val (.int x108), .val (.int (bI (¬ ((q1 &&& (1 : Int64)) = (0 : Int64))))), .val (.ref b2), .val (.ref b3), .val (.int (bI (¬ ((x16 + l20_98) < (x4 + x10))))), .val (.long s0_190), .second, .val (.long s0_204), .second] [(.long q2)]))
                refine g_lloadN X at_228 rfl (q := 229) rfl ?_
                refine g_lcmpB X at_229 (q1 := 230) rfl at_230 (Or.inr (Or.inr rfl)) (q := 233) rfl (by decide) (t := 290) rfl (fun (c2 : q2 = q2) => ?_) (fun (c2 : ¬ (q2 = q2)) => ?_)
                · skip
                  refine g_aload X at_233 rfl (q := 235) rfl rfl ?_
                  refine g_callV X O_b3.1 [] [] (tw45 hw) (tw46 hw) (tw48 hw) (tw47 hw) (tw4 hw) (tw49 hw) (by decide) (rm7 l Z a0 hw [] b3 q1 q2 x101 (if (l20_98 - x10) < (x4 - x16) then x16 else x4) (if (l20_98 - x10) < (x4 - x16) then l20_98 else x10) x108 (¬ ((q1 &&& (1 : Int64)) = (0 : Int64))) _ n0 X.size O_b3) pd3 rfl rfl rfl at_235 (q := 238) rfl (W := 0) rfl (by decide) (by decide) (c2 := 2) (s2 := 14) rfl rfl (by decide) (by decide) (fun v T h' X hQ => ?_)
                  obtain ⟨rfl, rfl⟩ := hQ
                  show Goes p e below s _ n0 _ (T.setTop (mkF m 238 #[.val (.long q1), .second, .val (.long q2), .second, .val (.long q3), .second, .val (.long q4), .second, .val (.long q5), .second, .val (.long q6), .second, .val (.long x4), .second, .val (.long x10), .second, .val (.long x16), .second, .val (.long x24), .second, .val (.long l20_98), .second, .val (.long x101), .second, .val (.int x108), .val (.int (bI (¬ ((q1 &&& (1 : Int64)) = (0 : Int64))))), .val (.ref b2), .val (.ref b3), .val (.int (bI (¬ ((x16 + l20_98) < (x4 + x10))))), .val (.long s0_190), .second, .val (.long s0_204), .second] [(.long x101)]))
                  refine g_lload X at_238 rfl (q := 240) rfl ?_
                  refine g_lcmpB X at_240 (q1 := 241) rfl at_241 (Or.inr (Or.inr rfl)) (q := 244) rfl (by decide) (t := 290) rfl (fun (c3 : x101 = x101) => ?_) (fun (c3 : ¬ (x101 = x101)) => ?_)
                  · skip
                    refine g_aload X at_244 rfl (q := 246) rfl rfl ?_
                    refine g_callV X O_b3.1 [] [] (tw50 hw) (tw51 hw) (tw53 hw) (tw52 hw) (tw4 hw) (tw54 hw) (by decide) (rm8 l Z a0 hw [] b3 q1 q2 x101 (if (l20_98 - x10) < (x4 - x16) then x16 else x4) (if (l20_98 - x10) < (x4 - x16) then l20_98 else x10) x108 (¬ ((q1 &&& (1 : Int64)) = (0 : Int64))) _ n0 X.size O_b3) pd3 rfl rfl rfl at_246 (q := 249) rfl (W := 0) rfl (by decide) (by decide) (c2 := 2) (s2 := 14) rfl rfl (by decide) (by decide) (fun v T h' X hQ => ?_)
                    obtain ⟨rfl, rfl⟩ := hQ
                    show Goes p e below s _ n0 _ (T.setTop (mkF m 249 #[.val (.long q1), .second, .val (.long q2), .second, .val (.long q3), .second, .val (.long q4), .second, .val (.long q5), .second, .val (.long q6), .second, .val (.long x4), .second, .val (.long x10), .second, .val (.long x16), .second, .val (.long x24), .second, .val (.long l20_98), .second, .val (.long x101), .second, .val (.int x108), .val (.int (bI (¬ ((q1 &&& (1 : Int64)) = (0 : Int64))))), .val (.ref b2), .val (.ref b3), .val (.int (bI (¬ ((x16 + l20_98) < (x4 + x10))))), .val (.long s0_190), .second, .val (.long s0_204), .second] [(.long (if (l20_98 - x10) < (x4 - x16) then x16 else x4))]))
                    refine g_lload X at_249 rfl (q := 251) rfl ?_
                    refine g_lcmpB X at_251 (q1 := 252) rfl at_252 (Or.inr (Or.inr rfl)) (q := 255) rfl (by decide) (t := 290) rfl (fun (c4 : (if (l20_98 - x10) < (x4 - x16) then x16 else x4) = s0_190) => ?_) (fun (c4 : ¬ ((if (l20_98 - x10) < (x4 - x16) then x16 else x4) = s0_190)) => ?_)
                    · skip
                      refine g_aload X at_255 rfl (q := 257) rfl rfl ?_
                      refine g_callV X O_b3.1 [] [] (tw55 hw) (tw56 hw) (tw58 hw) (tw57 hw) (tw4 hw) (tw59 hw) (by decide) (rm9 l Z a0 hw [] b3 q1 q2 x101 (if (l20_98 - x10) < (x4 - x16) then x16 else x4) (if (l20_98 - x10) < (x4 - x16) then l20_98 else x10) x108 (¬ ((q1 &&& (1 : Int64)) = (0 : Int64))) _ n0 X.size O_b3) pd3 rfl rfl rfl at_257 (q := 260) rfl (W := 0) rfl (by decide) (by decide) (c2 := 2) (s2 := 14) rfl rfl (by decide) (by decide) (fun v T h' X hQ => ?_)
                      obtain ⟨rfl, rfl⟩ := hQ
                      show Goes p e below s _ n0 _ (T.setTop (mkF m 260 #[.val (.long q1), .second, .val (.long q2), .second, .val (.long q3), .second, .val (.long q4), .second, .val (.long q5), .second, .val (.long q6), .second, .val (.long x4), .second, .val (.long x10), .second, .val (.long x16), .second, .val (.long x24), .second, .val (.long l20_98), .second, .val (.long x101), .second, .val (.int x108), .val (.int (bI (¬ ((q1 &&& (1 : Int64)) = (0 : Int64))))), .val (.ref b2), .val (.ref b3), .val (.int (bI (¬ ((x16 + l20_98) < (x4 + x10))))), .val (.long s0_190), .second, .val (.long s0_204), .second] [(.long (if (l20_98 - x10) < (x4 - x16) then l20_98 else x10))]))
                      refine g_lload X at_260 rfl (q := 262) rfl ?_
                      refine g_lcmpB X at_262 (q1 := 263) rfl at_263 (Or.inr (Or.inr rfl)) (q := 266) rfl (by decide) (t := 290) rfl (fun (c5 : (if (l20_98 - x10) < (x4 - x16) then l20_98 else x10) = s0_204) => ?_) (fun (c5 : ¬ ((if (l20_98 - x10) < (x4 - x16) then l20_98 else x10) = s0_204)) => ?_)
                      · skip
                        refine g_aload X at_266 rfl (q := 268) rfl rfl ?_
                        refine g_callV X O_b3.1 [] [] (tw60 hw) (tw61 hw) (tw63 hw) (tw62 hw) (tw4 hw) (tw64 hw) (by decide) (rm10 l Z a0 hw [] b3 q1 q2 x101 (if (l20_98 - x10) < (x4 - x16) then x16 else x4) (if (l20_98 - x10) < (x4 - x16) then l20_98 else x10) x108 (¬ ((q1 &&& (1 : Int64)) = (0 : Int64))) _ n0 X.size O_b3) pd4 rfl rfl rfl at_268 (q := 271) rfl (W := 0) rfl (by decide) (by decide) (c2 := 2) (s2 := 14) rfl rfl (by decide) (by decide) (fun v T h' X hQ => ?_)
                        obtain ⟨rfl, rfl⟩ := hQ
                        show Goes p e below s _ n0 _ (T.setTop (mkF m 271 #[.val (.long q1), .second, .val (.long q2), .second, .val (.long q3), .second, .val (.long q4), .second, .val (.long q5), .second, .val (.long q6), .second, .val (.long x4), .second, .val (.long x10), .second, .val (.long x16), .second, .val (.long x24), .second, .val (.long l20_98), .second, .val (.long x101), .second, .val (.int x108), .val (.int (bI (¬ ((q1 &&& (1 : Int64)) = (0 : Int64))))), .val (.ref b2), .val (.ref b3), .val (.int (bI (¬ ((x16 + l20_98) < (x4 + x10))))), .val (.long s0_190), .second, .val (.long s0_204), .second] [(.int x108)]))
                        refine g_iload X at_271 rfl (q := 273) rfl ?_
                        refine g_icmpB X at_273 (Or.inr (Or.inr rfl)) (q := 276) rfl (by decide) (t := 290) rfl (fun (c6 : x108 = x108) => ?_) (fun (c6 : ¬ (x108 = x108)) => ?_)
                        · skip
                          refine g_aload X at_276 rfl (q := 278) rfl rfl ?_
                          refine g_callV X O_b3.1 [] [] (tw65 hw) (tw66 hw) (tw68 hw) (tw67 hw) (tw4 hw) (tw69 hw) (by decide) (rm11 l Z a0 hw [] b3 q1 q2 x101 (if (l20_98 - x10) < (x4 - x16) then x16 else x4) (if (l20_98 - x10) < (x4 - x16) then l20_98 else x10) x108 (¬ ((q1 &&& (1 : Int64)) = (0 : Int64))) _ n0 X.size O_b3) pd5 rfl rfl rfl at_278 (q := 281) rfl (W := 0) rfl (by decide) (by decide) (c2 := 2) (s2 := 14) rfl rfl (by decide) (by decide) (fun v T h' X hQ => ?_)
                          obtain ⟨rfl, rfl⟩ := hQ
                          show Goes p e below s _ n0 _ (T.setTop (mkF m 281 #[.val (.long q1), .second, .val (.long q2), .second, .val (.long q3), .second, .val (.long q4), .second, .val (.long q5), .second, .val (.long q6), .second, .val (.long x4), .second, .val (.long x10), .second, .val (.long x16), .second, .val (.long x24), .second, .val (.long l20_98), .second, .val (.long x101), .second, .val (.int x108), .val (.int (bI (¬ ((q1 &&& (1 : Int64)) = (0 : Int64))))), .val (.ref b2), .val (.ref b3), .val (.int (bI (¬ ((x16 + l20_98) < (x4 + x10))))), .val (.long s0_190), .second, .val (.long s0_204), .second] [(.int (bI ((¬ ((q1 &&& (1 : Int64)) = (0 : Int64))))))]))
                          refine g_iload X at_281 rfl (q := 283) rfl ?_
                          refine g_icmpB X at_283 (Or.inr (Or.inr rfl)) (q := 286) rfl (by decide) (t := 290) rfl (fun c7 => ?_) (fun c7 => ?_)
                          · replace c7 : ((¬ ((q1 &&& (1 : Int64)) = (0 : Int64)))) ↔ (¬ ((q1 &&& (1 : Int64)) = (0 : Int64))) := (bI_inj _ _).mp c7
                            refine g_iconst X at_286 rfl (q := 287) (v := 1) rfl ?_
                            refine g_goto X at_287 (by decide) (q := 291) rfl ?_
                            exact J291_0 T X _ (bI_t ⟨c1, ⟨c2, ⟨c3, ⟨c4, ⟨c5, ⟨c6, c7⟩⟩⟩⟩⟩⟩)
                          · replace c7 : ¬ (((¬ ((q1 &&& (1 : Int64)) = (0 : Int64)))) ↔ (¬ ((q1 &&& (1 : Int64)) = (0 : Int64)))) := fun z => c7 ((bI_inj _ _).mpr z)
                            refine g_iconst X at_290 rfl (q := 291) (v := 0) rfl ?_
                            exact J291_0 T X _ (bI_f (fun z => (fun z => (fun z => (fun z => (fun z => (fun z => c7 z.2) z.2) z.2) z.2) z.2) z.2))
                        · skip
                          refine g_iconst X at_290 rfl (q := 291) (v := 0) rfl ?_
                          exact J291_0 T X _ (bI_f (fun z => (fun z => (fun z => (fun z => (fun z => (fun z => c6 z.1) z.2) z.2) z.2) z.2) z.2))
                      · skip
                        refine g_iconst X at_290 rfl (q := 291) (v := 0) rfl ?_
                        exact J291_0 T X _ (bI_f (fun z => (fun z => (fun z => (fun z => (fun z => c5 z.1) z.2) z.2) z.2) z.2))
                    · skip
                      refine g_iconst X at_290 rfl (q := 291) (v := 0) rfl ?_
                      exact J291_0 T X _ (bI_f (fun z => (fun z => (fun z => (fun z => c4 z.1) z.2) z.2) z.2))
                  · skip
                    refine g_iconst X at_290 rfl (q := 291) (v := 0) rfl ?_
                    exact J291_0 T X _ (bI_f (fun z => (fun z => (fun z => c3 z.1) z.2) z.2))
                · skip
                  refine g_iconst X at_290 rfl (q := 291) (v := 0) rfl ?_
                  exact J291_0 T X _ (bI_f (fun z => (fun z => c2 z.1) z.2))
              · skip
                refine g_iconst X at_290 rfl (q := 291) (v := 0) rfl ?_
                exact J291_0 T X _ (bI_f (fun z => c1 z.1))
          · intro J204_7
            refine g_beq X at_194 (q := 197) rfl (by decide) (t := 202) rfl (fun (c8 : ¬ ((x16 + l20_98) < (x4 + x10))) => ?_) (fun (c8 : ¬ (¬ ((x16 + l20_98) < (x4 + x10)))) => ?_)
            · skip
              refine g_lload X at_197 rfl (q := 199) rfl ?_
              refine g_goto X at_199 (by decide) (q := 204) rfl ?_
              exact J204_7 T X _ ((if_pos c8).symm)
            · skip
              refine g_lload X at_202 rfl (q := 204) rfl ?_
              exact J204_7 T X _ ((if_neg c8).symm)
        · intro J190_8
          refine g_beq X at_180 (q := 183) rfl (by decide) (t := 188) rfl (fun (c9 : ¬ ((x16 + l20_98) < (x4 + x10))) => ?_) (fun (c9 : ¬ (¬ ((x16 + l20_98) < (x4 + x10)))) => ?_)
          · skip
            refine g_lload X at_183 rfl (q := 185) rfl ?_
            refine g_goto X at_185 (by decide) (q := 190) rfl ?_
            exact J190_8 T X _ ((if_pos c9).symm)
          · skip
            refine g_lload X at_188 rfl (q := 190) rfl ?_
            exact J190_8 T X _ ((if_neg c9).symm)
      · intro J176_9
        refine g_lcmpA X at_167 (q1 := 168) rfl at_168 (Or.inl rfl) (q := 171) rfl (by decide) (t := 175) rfl (fun (c10 : (x16 + l20_98) < (x4 + x10)) => ?_) (fun (c10 : ¬ ((x16 + l20_98) < (x4 + x10))) => ?_)
        · skip
          refine g_iconst X at_175 rfl (q := 176) (v := 0) rfl ?_
          exact J176_9 T X _ (bI_f (fun z => z c10))
        · skip
          refine g_iconst X at_171 rfl (q := 172) (v := 1) rfl ?_
          refine g_goto X at_172 (by decide) (q := 176) rfl ?_
          exact J176_9 T X _ (bI_t c10)
    · intro J123_10
      refine g_lcmpA X at_114 (q1 := 115) rfl at_115 (Or.inr (Or.inr rfl)) (q := 118) rfl (by decide) (t := 122) rfl (fun (c11 : (q1 &&& (1 : Int64)) = (0 : Int64)) => ?_) (fun (c11 : ¬ ((q1 &&& (1 : Int64)) = (0 : Int64))) => ?_)
      · skip
        refine g_iconst X at_122 rfl (q := 123) (v := 0) rfl ?_
        exact J123_10 T X _ (bI_f (fun z => z c11))
      · skip
        refine g_iconst X at_118 rfl (q := 119) (v := 1) rfl ?_
        refine g_goto X at_119 (by decide) (q := 123) rfl ?_
        exact J123_10 T X _ (bI_t c11)
  · intro J98_11
    refine g_lcmpB X at_29 (q1 := 30) rfl at_30 (Or.inr (Or.inr rfl)) (q := 33) rfl (by decide) (t := 46) rfl (fun (c12 : x24 = (0 : Int64)) => ?_) (fun (c12 : ¬ (x24 = (0 : Int64))) => ?_)
    · skip
      have b_x24 : (0 : Int) ≤ x24.toInt ∧ x24.toInt ≤ 0 := by have z0 := c12; (try simp only [Int64.lt_iff_toInt_lt, Int32.lt_iff_toInt_lt, Int64.le_iff_toInt_le, Int32.le_iff_toInt_le, ← Int64.toInt_inj, ← Int32.toInt_inj, apply_ite Int64.toInt, apply_ite Int32.toInt, Int64.reduceToInt, Int32.reduceToInt, ne_eq] at z0); have z1 := rng64 x24; omega
      refine g_lload X at_33 rfl (q := 35) rfl ?_
      refine g_lload X at_35 rfl (q := 37) rfl ?_
      refine g_ladd X at_37 rfl (q := 38) ?_
      refine g_lload X at_38 rfl (q := 40) rfl ?_
      refine g_lsub X at_40 rfl (q := 41) ?_
      refine g_lstore X at_41 rfl (q := 43) (L' := #[.val (.long q1), .second, .val (.long q2), .second, .val (.long q3), .second, .val (.long q4), .second, .val (.long q5), .second, .val (.long q6), .second, .val (.long x4), .second, .val (.long x10), .second, .val (.long x16), .second, .val (.long x24), .second, .val (.long ((x4 + x10) - x16)), .second, .unset, .unset, .unset, .unset, .unset, .unset, .unset, .unset, .unset, .unset, .unset]) rfl ?_
      refine g_goto X at_43 (by decide) (q := 98) rfl ?_
      exact J98_11 T X _ ((if_pos c12).symm)
    · skip
      refine g_lload X at_46 rfl (q := 48) rfl ?_
      refine g_lconst X at_48 rfl (q := 49) (v := 1) rfl ?_
      refine g_lcmpB X at_49 (q1 := 50) rfl at_50 (Or.inr (Or.inr rfl)) (q := 53) rfl (by decide) (t := 68) rfl (fun (c13 : x24 = (1 : Int64)) => ?_) (fun (c13 : ¬ (x24 = (1 : Int64))) => ?_)
      · skip
        have b_x24 : (1 : Int) ≤ x24.toInt ∧ x24.toInt ≤ 1 := by have z0 := c13; (try simp only [Int64.lt_iff_toInt_lt, Int32.lt_iff_toInt_lt, Int64.le_iff_toInt_le, Int32.le_iff_toInt_le, ← Int64.toInt_inj, ← Int32.toInt_inj, apply_ite Int64.toInt, apply_ite Int32.toInt, Int64.reduceToInt, Int32.reduceToInt, ne_eq] at z0); have z1 := rng64 x24; omega
        refine g_lload X at_53 rfl (q := 55) rfl ?_
        refine g_lload X at_55 rfl (q := 57) rfl ?_
        refine g_ladd X at_57 rfl (q := 58) ?_
        refine g_lload X at_58 rfl (q := 60) rfl ?_
        refine g_lsub X at_60 rfl (q := 61) ?_
        refine g_lconst X at_61 rfl (q := 62) (v := 1) rfl ?_
        refine g_lsub X at_62 rfl (q := 63) ?_
        refine g_lstore X at_63 rfl (q := 65) (L' := #[.val (.long q1), .second, .val (.long q2), .second, .val (.long q3), .second, .val (.long q4), .second, .val (.long q5), .second, .val (.long q6), .second, .val (.long x4), .second, .val (.long x10), .second, .val (.long x16), .second, .val (.long x24), .second, .val (.long (((x4 + x10) - x16) - (1 : Int64))), .second, .unset, .unset, .unset, .unset, .unset, .unset, .unset, .unset, .unset, .unset, .unset]) rfl ?_
        refine g_goto X at_65 (by decide) (q := 98) rfl ?_
        exact J98_11 T X _ (((if_pos c13).symm).trans (if_neg c12).symm)
      · skip
        refine g_lload X at_68 rfl (q := 70) rfl ?_
        refine g_ldc2 X (tw1 hw) at_70 (q := 73) rfl ?_
        refine g_lcmpB X at_73 (q1 := 74) rfl at_74 (Or.inr (Or.inr rfl)) (q := 77) rfl (by decide) (t := 92) rfl (fun (c14 : x24 = (2 : Int64)) => ?_) (fun (c14 : ¬ (x24 = (2 : Int64))) => ?_)
        · skip
          have b_x24 : (2 : Int) ≤ x24.toInt ∧ x24.toInt ≤ 2 := by have z0 := c14; (try simp only [Int64.lt_iff_toInt_lt, Int32.lt_iff_toInt_lt, Int64.le_iff_toInt_le, Int32.le_iff_toInt_le, ← Int64.toInt_inj, ← Int32.toInt_inj, apply_ite Int64.toInt, apply_ite Int32.toInt, Int64.reduceToInt, Int32.reduceToInt, ne_eq] at z0); have z1 := rng64 x24; omega
          refine g_lload X at_77 rfl (q := 79) rfl ?_
          refine g_lload X at_79 rfl (q := 81) rfl ?_
          refine g_ladd X at_81 rfl (q := 82) ?_
          refine g_lload X at_82 rfl (q := 84) rfl ?_
          refine g_lsub X at_84 rfl (q := 85) ?_
          refine g_lconst X at_85 rfl (q := 86) (v := 1) rfl ?_
          refine g_ladd X at_86 rfl (q := 87) ?_
          refine g_lstore X at_87 rfl (q := 89) (L' := #[.val (.long q1), .second, .val (.long q2), .second, .val (.long q3), .second, .val (.long q4), .second, .val (.long q5), .second, .val (.long q6), .second, .val (.long x4), .second, .val (.long x10), .second, .val (.long x16), .second, .val (.long x24), .second, .val (.long (((x4 + x10) - x16) + (1 : Int64))), .second, .unset, .unset, .unset, .unset, .unset, .unset, .unset, .unset, .unset, .unset, .unset]) rfl ?_
          refine g_goto X at_89 (by decide) (q := 98) rfl ?_
          exact J98_11 T X _ ((((if_pos c14).symm).trans (if_neg c13).symm).trans (if_neg c12).symm)
        · skip
          refine g_lload X at_92 rfl (q := 94) rfl ?_
          refine g_iconst X at_94 rfl (q := 95) (v := 3) rfl ?_
          refine g_lshr X at_95 rfl (q := 96) ?_
          refine g_lstore X at_96 rfl (q := 98) (L' := #[.val (.long q1), .second, .val (.long q2), .second, .val (.long q3), .second, .val (.long q4), .second, .val (.long q5), .second, .val (.long q6), .second, .val (.long x4), .second, .val (.long x10), .second, .val (.long x16), .second, .val (.long x24), .second, .val (.long (q6 >>> ((3 : Int32) &&& 0x3f).toInt64)), .second, .unset, .unset, .unset, .unset, .unset, .unset, .unset, .unset, .unset, .unset, .unset]) rfl ?_
          exact J98_11 T X _ ((((if_neg c14).symm).trans (if_neg c13).symm).trans (if_neg c12).symm)
set_option maxRecDepth 65536 in
set_option maxHeartbeats 40000000 in
theorem comes_1 {Post : Tables → Env → Array Value → State → Outcome → State → Prop} (hpost : ∀ tb e args s v u, (limb_1_1.after args s (.returned v) u = true ∧ limb_1_2.after args s (.returned v) u = true ∧ True) → FrameEnd s (.returned v) u (Jvm.fieldLocs frame_1_writes args s ++ Jvm.arrayLocs frame_1_arrays args s ++ Jvm.staticLocs frame_1_statics s) 16 128 → Post tb e args s (.returned v) u) :
    ArmFor flags0 classFile x code maxLocals ret World_1 tables_1 room_1 Calls_1 rest_1 Pre_1 Post := by
  intro l hfl _ _ p e ha hc hk s m args below hf hA hF happ hP
  obtain ⟨hcalls, hrest, hpre⟩ := hP
  obtain ⟨-, -, -, hnamed, -, -, -, hat⟩ := (Spec.applies_iff hf).mp happ
  obtain ⟨hg, hn⟩ := and_e (Cond.before_iff.mp (show (Jvm.Cond.and given_1 narrow_1).before args s = true from hpre))
  obtain ⟨u1, w1⟩ := and_e hg
  obtain ⟨u2, w2⟩ := and_e w1
  obtain ⟨u3, w3⟩ := and_e w2
  obtain ⟨u4, w4⟩ := and_e w3
  obtain ⟨u5, w5⟩ := and_e w4
  obtain ⟨u6, w6⟩ := and_e w5
  obtain ⟨z0, z1, z2, z3, z4, z5, rfl⟩ : ∃ z0 z1 z2 z3 z4 z5 : Value, args = #[z0, z1, z2, z3, z4, z5] := by
    have hs : args.size = 6 := by simpa [Cond.value, given_1] using u1
    obtain ⟨L⟩ := args
    match L, hs with
    | [z0, z1, z2, z3, z4, z5], _ => exact ⟨z0, z1, z2, z3, z4, z5, rfl⟩
  have hw := fun d (hd : d ∈ tables_1) => atoms_spec (ws := Jvm.Cond.code x code maxLocals ret :: tables_1) hat d (List.mem_cons_of_mem _ hd)
  obtain ⟨i0, ei0⟩ := isL_v u2
  obtain rfl : z0 = (.long i0) := Option.some.inj ei0
  obtain ⟨i1, ei1⟩ := isL_v u3
  obtain rfl : z1 = (.long i1) := Option.some.inj ei1
  obtain ⟨i2, ei2⟩ := isL_v u4
  obtain rfl : z2 = (.long i2) := Option.some.inj ei2
  obtain ⟨i3, ei3⟩ := isL_v u5
  obtain rfl : z3 = (.long i3) := Option.some.inj ei3
  obtain ⟨i4, ei4⟩ := isL_v u6
  obtain rfl : z4 = (.long i4) := Option.some.inj ei4
  obtain ⟨i5, ei5⟩ := isL_v w6
  obtain rfl : z5 = (.long i5) := Option.some.inj ei5
  obtain ⟨n, o, h1, h2, h3, _, L, rfl, ⟨N, rfl⟩, hq⟩ := rm0 l s _ hw tables_1 i0 i1 i2 i3 i4 i5 s.heap s.heap.size (Nat.le_refl _) p e ha hc hk s m _ below hf ((Spec.applies_iff_loose hf).mp happ).1 ⟨rfl, State.Warmed39.refl s, rfl⟩ trivial
  refine ⟨n, _, h1, h2, h3, hpost _ _ _ _ _ _ ⟨Cond.after_iff.mpr rfl, Cond.after_iff.mpr (eq_i res_at (Term.int_eval (1)) rfl), trivial⟩ ⟨hq.1, hq.2.1, (hq.2.2.sift fun y hy => Or.inr (N y hy)).mono (by decide) (by decide)⟩⟩
theorem main_1_1 : Claimed_1_1 := comes_1 fun _ _ _ _ _ _ h hF => ⟨h.1, hF⟩
theorem main_1_2 : Claimed_1_2 := comes_1 fun _ _ _ _ _ _ h hF => ⟨h.2.1, hF⟩
end Jvm.Pilot.@@N@@
namespace Jvm.Pilot.@@N@@
open Jvm Jvm.ClassFile Sem Op Lib Jvm.Free Jvm.Stand Jvm.Pilot.@@N@@.Jvm.D
/-! MADE BY PROGRAM (witnessworld.py) out of the Statement's table words and the real class files: 10 classes; the members and pool entries that the words name. The judged class is class 1, her method 1. -/
namespace start1
open Jvm.ClassFile
def u (s : String) : CpInfo := .utf8 (stringToUtf16 s)
/-- a pool by its gaps: so many unusable entries, then the entry; so many at the end -/
def gap : Nat → List CpInfo → List CpInfo
  | 0, r => r
  | n + 1, r => .unusable :: gap n r
def poolList (es : List (Nat × CpInfo)) (last : Nat) : List CpInfo := es.foldr (fun e r => gap e.1 (e.2 :: r)) (gap last [])
def pool (es : List (Nat × CpInfo)) (last : Nat) : Array CpInfo := ⟨poolList es last⟩
def fileOf (pool : Array CpInfo) (this : Nat) (attrs : Array Attribute := #[]) (ms : Array MethodInfo := #[]) (fl : Nat := 33) (sup : Nat := 0) (ifs : Array Nat := #[]) (fds : Array FieldInfo := #[]) : ClassFile where
  minorVersion := 0
  majorVersion := 65
  constantPool := pool
  accessFlags := fl
  thisClass := this
  superClass := sup
  interfaces := ifs
  fields := fds
  methods := ms
  attributes := attrs
def plain (name : String) (sup : Option ClassId) : Class where
  name := name
  kind := .ordinary
  loader := none
  accessFlags := 33
  super := sup
  interfaces := #[]
  cf := none
  fields := #[]
  methods := #[]
  instanceTypes := #[]
  staticTypes := #[]
  resolved := #[]
  callSites := []
  init := .initialized
  statics := none
  mirror := none

def pool0 : Array CpInfo := pool [(5, u "<init>"), (0, u "()V"), (1, .class_ 10), (1, u "java/lang/Object")] 113

def k0c0 : Code := { maxStack := 0, maxLocals := 1, code := object_method_1_code, exceptionTable := #[], attributes := #[] }
def k0m0 : Method := { name := "<init>", desc := "()V", sig := { parameters := [], returnType := none }, accessFlags := 1, code := some k0c0 }
/-- java/lang/Object -/
def k0 : Class := { plain "java/lang/Object" none with
  accessFlags := 33
  interfaces := #[]
  cf := some (fileOf pool0 8 #[] #[{ accessFlags := 1, nameIndex := 5, descriptorIndex := 6, attributes := #[] }] 33 0 #[] #[])
  fields := #[]
  methods := #[k0m0]
  instanceTypes := #[]
  staticTypes := #[]
  resolved := Array.replicate 124 none
  statics := none }

def pool1 : Array CpInfo := pool [(2, .class_ 4), (1, u "java/lang/Object"), (0, u "<init>"), (0, u "()V"), (0, .long 3), (1, .long 2), (1, .class_ 12), (0, u "com/example/holdfast/holdfast/Grant"), (0, .methodref 11 14), (0, .nameAndType 5 15), (0, u "(JJJJJIZ)V"), (0, .methodref 11 17), (0, .nameAndType 18 19), (0, u "endingBy"), (0, u "(JJ)Lcom/example/holdfast/holdfast/Grant;"), (0, .methodref 11 21), (0, .nameAndType 22 23), (0, u "threadId"), (0, u "()J"), (0, .methodref 11 25), (0, .nameAndType 26 23), (0, u "token"), (0, .methodref 11 28), (0, .nameAndType 29 23), (0, u "servers"), (0, .methodref 11 31), (0, .nameAndType 32 23), (0, u "requestedAtNanos"), (0, .methodref 11 34), (0, .nameAndType 35 23), (0, u "leaseNanos"), (0, .methodref 11 37), (0, .nameAndType 38 39), (0, u "holds"), (0, u "()I"), (0, .methodref 11 41), (0, .nameAndType 42 43), (0, u "renewed"), (0, u "()Z"), (0, .class_ 45), (0, u "com/example/holdfast/holdfast/GrantEndingByPinLaw"), (2, u "law"), (0, u "(JJJJJJ)Z")] 3

def k1m0 : Method := { name := "<init>", desc := "()V", sig := { parameters := [], returnType := none }, accessFlags := 1, code := none }
def k1c1 : Code := { maxStack := 14, maxLocals := 33, code := code, exceptionTable := #[], attributes := #[] }
def k1m1 : Method := { name := "law", desc := "(JJJJJJ)Z", sig := { parameters := [.long, .long, .long, .long, .long, .long], returnType := some .boolean }, accessFlags := 9, code := some k1c1 }
/-- com/example/holdfast/holdfast/GrantEndingByPinLaw -/
def k1 : Class := { plain "com/example/holdfast/holdfast/GrantEndingByPinLaw" (some 0) with
  accessFlags := 49
  interfaces := #[]
  cf := some (fileOf pool1 44 #[] #[{ accessFlags := 1, nameIndex := 5, descriptorIndex := 6, attributes := #[] }, { accessFlags := 9, nameIndex := 48, descriptorIndex := 49, attributes := #[] }] 49 2 #[] #[])
  fields := #[]
  methods := #[k1m0, k1m1]
  instanceTypes := #[]
  staticTypes := #[]
  resolved := Array.replicate 53 none
  statics := none }

def pool2 : Array CpInfo := pool [(1, .methodref 2 3), (0, .class_ 4), (0, .nameAndType 5 6), (0, u "java/lang/Object"), (0, u "<init>"), (0, u "()V"), (0, .class_ 8), (0, u "java/lang/Record")] 13

def k2c0 : Code := { maxStack := 1, maxLocals := 1, code := jdk_30_method_1_code, exceptionTable := #[], attributes := #[] }
def k2m0 : Method := { name := "<init>", desc := "()V", sig := { parameters := [], returnType := none }, accessFlags := 4, code := some k2c0 }
/-- java/lang/Record -/
def k2 : Class := { plain "java/lang/Record" (some 0) with
  accessFlags := 1057
  interfaces := #[]
  cf := some (fileOf pool2 7 #[] #[{ accessFlags := 4, nameIndex := 5, descriptorIndex := 6, attributes := #[] }] 1057 2 #[] #[])
  fields := #[]
  methods := #[k2m0]
  instanceTypes := #[]
  staticTypes := #[]
  resolved := Array.replicate 22 none
  statics := none }

def pool3 : Array CpInfo := pool [(1, .methodref 2 3), (0, .class_ 4), (0, .nameAndType 5 6), (0, u "java/lang/Record"), (0, u "<init>"), (0, u "()V"), (0, .fieldref 8 9), (0, .class_ 10), (0, .nameAndType 11 12), (0, u "com/example/holdfast/holdfast/Grant"), (0, u "threadId"), (0, u "J"), (0, .fieldref 8 14), (0, .nameAndType 15 12), (0, u "token"), (0, .fieldref 8 17), (0, .nameAndType 18 12), (0, u "servers"), (0, .fieldref 8 20), (0, .nameAndType 21 12), (0, u "requestedAtNanos"), (0, .fieldref 8 23), (0, .nameAndType 24 12), (0, u "leaseNanos"), (0, .fieldref 8 26), (0, .nameAndType 27 28), (0, u "holds"), (0, u "I"), (0, .fieldref 8 30), (0, .nameAndType 31 32), (0, u "renewed"), (0, u "Z"), (9, u "()J"), (3, u "()Z"), (14, .methodref 8 62), (0, .nameAndType 5 63), (0, u "(JJJJJIZ)V"), (21, u "endingBy"), (0, u "(JJ)Lcom/example/holdfast/holdfast/Grant;"), (5, u "()I")] 27

def k3c0 : Code := { maxStack := 3, maxLocals := 13, code := prog_2_method_1_code, exceptionTable := #[], attributes := #[] }
def k3m0 : Method := { name := "<init>", desc := "(JJJJJIZ)V", sig := { parameters := [.long, .long, .long, .long, .long, .int, .boolean], returnType := none }, accessFlags := 0, code := some k3c0 }
def k3c1 : Code := { maxStack := 14, maxLocals := 5, code := prog_2_method_7_code, exceptionTable := #[], attributes := #[] }
def k3m1 : Method := { name := "endingBy", desc := "(JJ)Lcom/example/holdfast/holdfast/Grant;", sig := { parameters := [.long, .long], returnType := some (.object "com/example/holdfast/holdfast/Grant") }, accessFlags := 0, code := some k3c1 }
def k3c2 : Code := { maxStack := 2, maxLocals := 1, code := prog_2_method_13_code, exceptionTable := #[], attributes := #[] }
def k3m2 : Method := { name := "threadId", desc := "()J", sig := { parameters := [], returnType := some .long }, accessFlags := 1, code := some k3c2 }
def k3c3 : Code := { maxStack := 2, maxLocals := 1, code := prog_2_method_14_code, exceptionTable := #[], attributes := #[] }
def k3m3 : Method := { name := "token", desc := "()J", sig := { parameters := [], returnType := some .long }, accessFlags := 1, code := some k3c3 }
def k3c4 : Code := { maxStack := 2, maxLocals := 1, code := prog_2_method_15_code, exceptionTable := #[], attributes := #[] }
def k3m4 : Method := { name := "servers", desc := "()J", sig := { parameters := [], returnType := some .long }, accessFlags := 1, code := some k3c4 }
def k3c5 : Code := { maxStack := 2, maxLocals := 1, code := prog_2_method_16_code, exceptionTable := #[], attributes := #[] }
def k3m5 : Method := { name := "requestedAtNanos", desc := "()J", sig := { parameters := [], returnType := some .long }, accessFlags := 1, code := some k3c5 }
def k3c6 : Code := { maxStack := 2, maxLocals := 1, code := prog_2_method_17_code, exceptionTable := #[], attributes := #[] }
def k3m6 : Method := { name := "leaseNanos", desc := "()J", sig := { parameters := [], returnType := some .long }, accessFlags := 1, code := some k3c6 }
def k3c7 : Code := { maxStack := 1, maxLocals := 1, code := prog_2_method_18_code, exceptionTable := #[], attributes := #[] }
def k3m7 : Method := { name := "holds", desc := "()I", sig := { parameters := [], returnType := some .int }, accessFlags := 1, code := some k3c7 }
def k3c8 : Code := { maxStack := 1, maxLocals := 1, code := prog_2_method_19_code, exceptionTable := #[], attributes := #[] }
def k3m8 : Method := { name := "renewed", desc := "()Z", sig := { parameters := [], returnType := some .boolean }, accessFlags := 1, code := some k3c8 }
/-- com/example/holdfast/holdfast/Grant -/
def k3 : Class := { plain "com/example/holdfast/holdfast/Grant" (some 2) with
  accessFlags := 48
  interfaces := #[]
  cf := some (fileOf pool3 8 #[] #[{ accessFlags := 0, nameIndex := 5, descriptorIndex := 63, attributes := #[] }, { accessFlags := 0, nameIndex := 85, descriptorIndex := 86, attributes := #[] }, { accessFlags := 1, nameIndex := 11, descriptorIndex := 42, attributes := #[] }, { accessFlags := 1, nameIndex := 15, descriptorIndex := 42, attributes := #[] }, { accessFlags := 1, nameIndex := 18, descriptorIndex := 42, attributes := #[] }, { accessFlags := 1, nameIndex := 21, descriptorIndex := 42, attributes := #[] }, { accessFlags := 1, nameIndex := 24, descriptorIndex := 42, attributes := #[] }, { accessFlags := 1, nameIndex := 27, descriptorIndex := 92, attributes := #[] }, { accessFlags := 1, nameIndex := 31, descriptorIndex := 46, attributes := #[] }] 48 2 #[] #[{ accessFlags := 18, nameIndex := 11, descriptorIndex := 12, attributes := #[] }, { accessFlags := 18, nameIndex := 15, descriptorIndex := 12, attributes := #[] }, { accessFlags := 18, nameIndex := 18, descriptorIndex := 12, attributes := #[] }, { accessFlags := 18, nameIndex := 21, descriptorIndex := 12, attributes := #[] }, { accessFlags := 18, nameIndex := 24, descriptorIndex := 12, attributes := #[] }, { accessFlags := 18, nameIndex := 27, descriptorIndex := 28, attributes := #[] }, { accessFlags := 18, nameIndex := 31, descriptorIndex := 32, attributes := #[] }])
  fields := #[{ name := "threadId", type := .long, accessFlags := 18, slot := 0, constantValue := 0 }, { name := "token", type := .long, accessFlags := 18, slot := 1, constantValue := 0 }, { name := "servers", type := .long, accessFlags := 18, slot := 2, constantValue := 0 }, { name := "requestedAtNanos", type := .long, accessFlags := 18, slot := 3, constantValue := 0 }, { name := "leaseNanos", type := .long, accessFlags := 18, slot := 4, constantValue := 0 }, { name := "holds", type := .int, accessFlags := 18, slot := 5, constantValue := 0 }, { name := "renewed", type := .boolean, accessFlags := 18, slot := 6, constantValue := 0 }]
  methods := #[k3m0, k3m1, k3m2, k3m3, k3m4, k3m5, k3m6, k3m7, k3m8]
  instanceTypes := #[.long, .long, .long, .long, .long, .int, .boolean]
  staticTypes := #[]
  resolved := Array.replicate 120 none
  statics := none }

def pool4 : Array CpInfo := pool [(1, u "java/lang/Cloneable"), (0, .class_ 1), (0, u "java/lang/Object"), (0, .class_ 3)] 3

/-- java/lang/Cloneable -/
def k4 : Class := { plain "java/lang/Cloneable" (some 0) with
  accessFlags := 1537
  interfaces := #[]
  cf := some (fileOf pool4 2 #[] #[] 1537 4 #[] #[])
  fields := #[]
  methods := #[]
  instanceTypes := #[]
  staticTypes := #[]
  resolved := Array.replicate 8 none
  statics := none }

def pool5 : Array CpInfo := pool [(1, u "java/io/Serializable"), (0, .class_ 1), (0, u "java/lang/Object"), (0, .class_ 3)] 3

/-- java/io/Serializable -/
def k5 : Class := { plain "java/io/Serializable" (some 0) with
  accessFlags := 1537
  interfaces := #[]
  cf := some (fileOf pool5 2 #[] #[] 1537 4 #[] #[])
  fields := #[]
  methods := #[]
  instanceTypes := #[]
  staticTypes := #[]
  resolved := Array.replicate 8 none
  statics := none }

/-- the primitive byte -/
def k6 : Class := { plain "byte" none with kind := .primitive 'B', accessFlags := 0x411 }
/-- [B -/
def k7 : Class := { plain "[B" (some 0) with kind := .array 6 .byte, interfaces := #[4, 5], accessFlags := 1041 }

/-- the primitive int -/
def k8 : Class := { plain "int" none with kind := .primitive 'I', accessFlags := 0x411 }
/-- [I -/
def k9 : Class := { plain "[I" (some 0) with kind := .array 8 .int, interfaces := #[4, 5], accessFlags := 1041 }

def heap : Heap := #[]
def classes : Array Class := #[k0, k1, k2, k3, k4, k5, k6, k7, k8, k9]
def interned : List (Array UInt16 × Addr) := []
def slotsUsed : Nat := 0
def theMethod : MethodId := ⟨1, 1⟩
def args0 : Array Value := #[.long 5, .long 7, .long 9, .long 1, .long 2, .long 4]
def aboutOver (below : List Frame) : State where
  vm := { classes := classes, interned := interned.toArray }
  heap := heap
  slotsUsed := slotsUsed
  threads := #[{ frames := .invoking theMethod args0 :: below }]
def below0 : List Frame := [.native { method := ⟨0, 0⟩, args := #[] }]
def about1 : State := aboutOver below0
def p0 : Program := .bare "" "" ""
def e0 : Env := launch0.env 0 0 0
theorem w_frames : about1.frames = Frame.invoking theMethod args0 :: below0 := rfl
set_option maxRecDepth 65536 in
theorem w_args : argsFit about1.vm theMethod args0 = true := by decide +kernel
set_option maxRecDepth 65536 in
theorem w_heap : heapFits about1 = true := by decide +kernel
set_option maxRecDepth 65536 in
theorem w_runnable : about1.curStatus? = some .runnable := by decide +kernel
set_option maxRecDepth 65536 in
theorem w_alone : about1.alone = true := by decide +kernel
set_option maxRecDepth 65536 in
theorem w_named : about1.methodNamed? x = some theMethod := by decide +kernel
set_option maxRecDepth 65536 in
theorem w_hears : about1.hears theMethod below0 = true := by decide +kernel
set_option maxRecDepth 65536 in
theorem w_ripe : about1.ripe theMethod args0 below0 = true := by decide +kernel
theorem w_running : about1.status = .running := rfl
set_option maxRecDepth 65536 in
theorem w_room : about1.hasRoom e0.platform room_1 = true :=
  launch0.hasRoom_least _ room_1 (by decide +kernel) (by decide +kernel) (by decide +kernel) (by decide +kernel) (by decide +kernel) (by decide +kernel)
theorem allAtoms_all (ts : List Jvm.Cond) (a : Array Jvm.Value) (st : Jvm.State) : (allAtoms ts).before a st = ts.all (fun c => c.before a st) := by
  induction ts with
  | nil => rfl
  | cons c t ih =>
    show (Jvm.Cond.and c (allAtoms t)).before a st = _
    rw [Jvm.Cond.before_and, ih, List.all_cons]
def words1 : List Jvm.Cond := Jvm.Cond.code x code maxLocals ret :: tables_1
/-- a 'code' word, met by the world's own term for the bytes: nothing is compared byte by byte -/
theorem code_word {y : MethodName} {bytes : ByteArray} {mx : Nat} {rt : Option FieldType} {a : Array Value} {s : State} {m : MethodId} {meth : Method} {c : Code} (h1 : s.methodNamed? y = some m) (h2 : s.vm.method? m = some meth) (h3 : meth.code = some c) (h4 : c.code = bytes)
    (h5 : (c.maxLocals == mx && c.exceptionTable.isEmpty && decide (c.maxStack ≤ mostOperands) && decide (meth.sig.returnType = rt) && !meth.locks && decide (parseMethodDescriptor y.desc = some meth.sig)) = true) : (Jvm.Cond.code y bytes mx rt).before a s = true := by
  simp only [Bool.and_eq_true, beq_iff_eq, Bool.not_eq_true', decide_eq_true_eq] at h5
  obtain ⟨⟨⟨⟨⟨g1, g2⟩, g3⟩, g4⟩, g5⟩, g6⟩ := h5
  simp [Cond.before, Cond.holds, Cond.value, h1, h2, h3, h4, g1, g2, g3, g4, g5, g6]
def isCode : Jvm.Cond → Bool
  | .code _ _ _ _ => true
  | _ => false
theorem all_split {L : List Jvm.Cond} {P : Jvm.Cond → Bool} (h1 : L.all (fun c => isCode c || P c) = true) (h2 : ∀ c ∈ L.filter isCode, P c = true) : L.all P = true := by
  refine List.all_eq_true.mpr fun c hc => ?_
  have h := List.all_eq_true.mp h1 c hc
  rcases Bool.eq_false_or_eq_true (isCode c) with hi | hi
  · exact h2 c (List.mem_filter.mpr ⟨hc, hi⟩)
  · simpa [hi] using h
set_option maxRecDepth 65536 in
theorem w_c0 : (Jvm.Cond.code x code maxLocals ret).before args0 about1 = true := code_word (m := ⟨1, 1⟩) (meth := k1m1) (c := k1c1) (by decide +kernel) rfl rfl rfl (by decide +kernel)
set_option maxRecDepth 65536 in
theorem w_c1 : (Jvm.Cond.code ({ cls := "com/example/holdfast/holdfast/Grant", name := "<init>", desc := "(JJJJJIZ)V" } : Jvm.MethodName) prog_2_method_1_code (13 : Nat) (Option.none : Option Jvm.ClassFile.FieldType)).before args0 about1 = true := code_word (m := ⟨3, 0⟩) (meth := k3m0) (c := k3c0) (by decide +kernel) rfl rfl rfl (by decide +kernel)
set_option maxRecDepth 65536 in
theorem w_c2 : (Jvm.Cond.code ({ cls := "java/lang/Record", name := "<init>", desc := "()V" } : Jvm.MethodName) jdk_30_method_1_code (1 : Nat) (Option.none : Option Jvm.ClassFile.FieldType)).before args0 about1 = true := code_word (m := ⟨2, 0⟩) (meth := k2m0) (c := k2c0) (by decide +kernel) rfl rfl rfl (by decide +kernel)
set_option maxRecDepth 65536 in
theorem w_c3 : (Jvm.Cond.code ({ cls := "java/lang/Object", name := "<init>", desc := "()V" } : Jvm.MethodName) object_method_1_code (1 : Nat) (Option.none : Option Jvm.ClassFile.FieldType)).before args0 about1 = true := code_word (m := ⟨0, 0⟩) (meth := k0m0) (c := k0c0) (by decide +kernel) rfl rfl rfl (by decide +kernel)
set_option maxRecDepth 65536 in
theorem w_c4 : (Jvm.Cond.code ({ cls := "com/example/holdfast/holdfast/Grant", name := "endingBy", desc := "(JJ)Lcom/example/holdfast/holdfast/Grant;" } : Jvm.MethodName) prog_2_method_7_code (5 : Nat) (Option.some (Jvm.ClassFile.FieldType.object "com/example/holdfast/holdfast/Grant"))).before args0 about1 = true := code_word (m := ⟨3, 1⟩) (meth := k3m1) (c := k3c1) (by decide +kernel) rfl rfl rfl (by decide +kernel)
set_option maxRecDepth 65536 in
theorem w_c5 : (Jvm.Cond.code ({ cls := "com/example/holdfast/holdfast/Grant", name := "threadId", desc := "()J" } : Jvm.MethodName) prog_2_method_13_code (1 : Nat) (Option.some Jvm.ClassFile.FieldType.long)).before args0 about1 = true := code_word (m := ⟨3, 2⟩) (meth := k3m2) (c := k3c2) (by decide +kernel) rfl rfl rfl (by decide +kernel)
set_option maxRecDepth 65536 in
theorem w_c6 : (Jvm.Cond.code ({ cls := "com/example/holdfast/holdfast/Grant", name := "token", desc := "()J" } : Jvm.MethodName) prog_2_method_14_code (1 : Nat) (Option.some Jvm.ClassFile.FieldType.long)).before args0 about1 = true := code_word (m := ⟨3, 3⟩) (meth := k3m3) (c := k3c3) (by decide +kernel) rfl rfl rfl (by decide +kernel)
set_option maxRecDepth 65536 in
theorem w_c7 : (Jvm.Cond.code ({ cls := "com/example/holdfast/holdfast/Grant", name := "servers", desc := "()J" } : Jvm.MethodName) prog_2_method_15_code (1 : Nat) (Option.some Jvm.ClassFile.FieldType.long)).before args0 about1 = true := code_word (m := ⟨3, 4⟩) (meth := k3m4) (c := k3c4) (by decide +kernel) rfl rfl rfl (by decide +kernel)
set_option maxRecDepth 65536 in
theorem w_c8 : (Jvm.Cond.code ({ cls := "com/example/holdfast/holdfast/Grant", name := "requestedAtNanos", desc := "()J" } : Jvm.MethodName) prog_2_method_16_code (1 : Nat) (Option.some Jvm.ClassFile.FieldType.long)).before args0 about1 = true := code_word (m := ⟨3, 5⟩) (meth := k3m5) (c := k3c5) (by decide +kernel) rfl rfl rfl (by decide +kernel)
set_option maxRecDepth 65536 in
theorem w_c9 : (Jvm.Cond.code ({ cls := "com/example/holdfast/holdfast/Grant", name := "leaseNanos", desc := "()J" } : Jvm.MethodName) prog_2_method_17_code (1 : Nat) (Option.some Jvm.ClassFile.FieldType.long)).before args0 about1 = true := code_word (m := ⟨3, 6⟩) (meth := k3m6) (c := k3c6) (by decide +kernel) rfl rfl rfl (by decide +kernel)
set_option maxRecDepth 65536 in
theorem w_c10 : (Jvm.Cond.code ({ cls := "com/example/holdfast/holdfast/Grant", name := "holds", desc := "()I" } : Jvm.MethodName) prog_2_method_18_code (1 : Nat) (Option.some Jvm.ClassFile.FieldType.int)).before args0 about1 = true := code_word (m := ⟨3, 7⟩) (meth := k3m7) (c := k3c7) (by decide +kernel) rfl rfl rfl (by decide +kernel)
set_option maxRecDepth 65536 in
theorem w_c11 : (Jvm.Cond.code ({ cls := "com/example/holdfast/holdfast/Grant", name := "renewed", desc := "()Z" } : Jvm.MethodName) prog_2_method_19_code (1 : Nat) (Option.some Jvm.ClassFile.FieldType.boolean)).before args0 about1 = true := code_word (m := ⟨3, 8⟩) (meth := k3m8) (c := k3c8) (by decide +kernel) rfl rfl rfl (by decide +kernel)
def codes1 : List Jvm.Cond := [Jvm.Cond.code x code maxLocals ret, Jvm.Cond.code ({ cls := "com/example/holdfast/holdfast/Grant", name := "<init>", desc := "(JJJJJIZ)V" } : Jvm.MethodName) prog_2_method_1_code (13 : Nat) (Option.none : Option Jvm.ClassFile.FieldType), Jvm.Cond.code ({ cls := "java/lang/Record", name := "<init>", desc := "()V" } : Jvm.MethodName) jdk_30_method_1_code (1 : Nat) (Option.none : Option Jvm.ClassFile.FieldType), Jvm.Cond.code ({ cls := "java/lang/Object", name := "<init>", desc := "()V" } : Jvm.MethodName) object_method_1_code (1 : Nat) (Option.none : Option Jvm.ClassFile.FieldType), Jvm.Cond.code ({ cls := "com/example/holdfast/holdfast/Grant", name := "endingBy", desc := "(JJ)Lcom/example/holdfast/holdfast/Grant;" } : Jvm.MethodName) prog_2_method_7_code (5 : Nat) (Option.some (Jvm.ClassFile.FieldType.object "com/example/holdfast/holdfast/Grant")), Jvm.Cond.code ({ cls := "com/example/holdfast/holdfast/Grant", name := "threadId", desc := "()J" } : Jvm.MethodName) prog_2_method_13_code (1 : Nat) (Option.some Jvm.ClassFile.FieldType.long), Jvm.Cond.code ({ cls := "com/example/holdfast/holdfast/Grant", name := "token", desc := "()J" } : Jvm.MethodName) prog_2_method_14_code (1 : Nat) (Option.some Jvm.ClassFile.FieldType.long), Jvm.Cond.code ({ cls := "com/example/holdfast/holdfast/Grant", name := "servers", desc := "()J" } : Jvm.MethodName) prog_2_method_15_code (1 : Nat) (Option.some Jvm.ClassFile.FieldType.long), Jvm.Cond.code ({ cls := "com/example/holdfast/holdfast/Grant", name := "requestedAtNanos", desc := "()J" } : Jvm.MethodName) prog_2_method_16_code (1 : Nat) (Option.some Jvm.ClassFile.FieldType.long), Jvm.Cond.code ({ cls := "com/example/holdfast/holdfast/Grant", name := "leaseNanos", desc := "()J" } : Jvm.MethodName) prog_2_method_17_code (1 : Nat) (Option.some Jvm.ClassFile.FieldType.long), Jvm.Cond.code ({ cls := "com/example/holdfast/holdfast/Grant", name := "holds", desc := "()I" } : Jvm.MethodName) prog_2_method_18_code (1 : Nat) (Option.some Jvm.ClassFile.FieldType.int), Jvm.Cond.code ({ cls := "com/example/holdfast/holdfast/Grant", name := "renewed", desc := "()Z" } : Jvm.MethodName) prog_2_method_19_code (1 : Nat) (Option.some Jvm.ClassFile.FieldType.boolean)]
set_option maxRecDepth 65536 in
theorem codes_eq : words1.filter isCode = codes1 := rfl
theorem w_codes : ∀ c ∈ words1.filter isCode, c.before args0 about1 = true := by
  rw [codes_eq]
  intro c hc
  simp only [codes1, List.mem_cons, List.not_mem_nil, or_false] at hc
  rcases hc with rfl | rfl | rfl | rfl | rfl | rfl | rfl | rfl | rfl | rfl | rfl | rfl
  · exact w_c0
  · exact w_c1
  · exact w_c2
  · exact w_c3
  · exact w_c4
  · exact w_c5
  · exact w_c6
  · exact w_c7
  · exact w_c8
  · exact w_c9
  · exact w_c10
  · exact w_c11
set_option maxRecDepth 65536 in
theorem w_t1 : (words1.take 24).all (fun c => isCode c || c.before args0 about1) = true := by decide +kernel
set_option maxRecDepth 65536 in
theorem w_t2 : ((words1.drop 24).take 24).all (fun c => isCode c || c.before args0 about1) = true := by decide +kernel
set_option maxRecDepth 65536 in
theorem w_t3 : (((words1.drop 24).drop 24).take 24).all (fun c => isCode c || c.before args0 about1) = true := by decide +kernel
set_option maxRecDepth 65536 in
theorem w_t4 : (((words1.drop 24).drop 24).drop 24).all (fun c => isCode c || c.before args0 about1) = true := by decide +kernel
theorem w_tables : (allAtoms (Jvm.Cond.code x code maxLocals ret :: tables_1)).before args0 about1 = true := by
  rw [allAtoms_all]
  show words1.all (fun c => c.before args0 about1) = true
  refine all_split ?_ w_codes
  rw [← List.take_append_drop 24 words1, List.all_append, w_t1, ← List.take_append_drop 24 (words1.drop 24), List.all_append, w_t2, ← List.take_append_drop 24 ((words1.drop 24).drop 24), List.all_append, w_t3, w_t4]
  rfl
set_option maxRecDepth 65536 in
theorem w_case : (Jvm.Cond.and given_1 narrow_1).before args0 about1 = true := by decide +kernel
theorem w_applies : (headSpec (Jvm.Cond.code x code maxLocals ret :: tables_1) room_1).applies x e0.platform about1 = true :=
  (Spec.applies_iff w_frames).mpr ⟨w_running, w_runnable, w_alone, w_named, w_hears, w_ripe, w_room, w_tables⟩
theorem atStart : AtStart classFile x code maxLocals ret World_1 tables_1 room_1 Calls_1 rest_1 Pre_1 launch0 p0 e0 about1 theMethod args0 below0 :=
  ⟨lists_1, trivial, launch0.admits_env _ _ _, launch0.least_env, fairChoices_fair.cas, fairChoices_fair.clock, w_frames, w_args, w_heap, w_applies, trivial, trivial, w_case⟩
end start1
theorem witness_1 : WitnessClaimed_1 := ⟨start1.p0, start1.e0, start1.about1, start1.theMethod, start1.args0, start1.below0, start1.atStart⟩
end Jvm.Pilot.@@N@@
