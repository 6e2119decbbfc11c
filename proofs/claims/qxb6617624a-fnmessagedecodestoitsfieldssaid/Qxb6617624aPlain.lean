/-
  Plain mathematics of the encoding: no Go in sight but the model's own 'bits'.
-/
import Derived.Laws.BitsAllLaws
namespace Go.Proofs.Qxb6617624a

/-- Octet i of v, counted from the low end (two's complement). -/
def shB (v : Int) (i : Nat) : Int := v / 2 ^ (8 * i) % 256
/-- The low n octets of v, the high one first. -/
def bytesOf (v : Int) : Nat → List Int
  | 0 => []
  | n + 1 => shB v n :: bytesOf v n

theorem bytesOf_length (v : Int) (n : Nat) : (bytesOf v n).length = n := by
  induction n with
  | zero => rfl
  | succ n ih => simp [bytesOf, ih]

theorem shB_range (v : Int) (i : Nat) : 0 ≤ shB v i ∧ shB v i < 256 := by unfold shB; omega

theorem bytesOf_get (v : Int) (n i : Nat) (h : i < n) : (bytesOf v n)[i]? = some (shB v (n - 1 - i)) := by
  induction n generalizing i with
  | zero => omega
  | succ n ih =>
    cases i with
    | zero => simp [bytesOf]
    | succ i =>
      rw [bytesOf, List.getElem?_cons_succ, ih i (by omega)]
      congr 2
      omega

theorem div_step (v : Int) (m : Nat) : v / 2 ^ (8 * (m + 1)) * 256 + shB v m = v / 2 ^ (8 * m) := by
  have e : (2 : Int) ^ (8 * (m + 1)) = 2 ^ (8 * m) * 256 := by
    rw [show 8 * (m + 1) = 8 * m + 8 from by omega, Int.pow_add]; rfl
  unfold shB
  rw [e, ← Int.ediv_ediv_of_nonneg (Int.le_of_lt (Int.pow_pos (by omega)))]
  omega

/-- How many octets a length takes beyond 127. -/
def lenOcts (n : Nat) : Nat := if n < 256 then 1 else if n < 65536 then 2 else 3
/-- The identifier and the length. -/
def hdr (tag : Int) (n : Nat) : List Int := if n < 128 then [tag, (n : Int)] else [tag, 128 + (lenOcts n : Int)] ++ bytesOf n (lenOcts n)

/-- How many octets an integer takes. -/
def octs (v : Int) : Nat :=
  if -128 ≤ v ∧ v < 128 then 1 else if -32768 ≤ v ∧ v < 32768 then 2 else if -8388608 ≤ v ∧ v < 8388608 then 3 else if -2147483648 ≤ v ∧ v < 2147483648 then 4
  else if -549755813888 ≤ v ∧ v < 549755813888 then 5 else if -140737488355328 ≤ v ∧ v < 140737488355328 then 6 else if -36028797018963968 ≤ v ∧ v < 36028797018963968 then 7 else 8
def encInt (v : Int) : List Int := hdr 2 (octs v) ++ bytesOf v (octs v)
def encEl (tag : Int) (c : List Int) : List Int := hdr tag c.length ++ c

theorem octs_range (v : Int) : 1 ≤ octs v ∧ octs v ≤ 8 := by
  unfold octs
  repeat' split
  all_goals omega

theorem hdr_small (tag : Int) (n : Nat) (h : n < 128) : hdr tag n = [tag, (n : Int)] := by simp [hdr, h]

theorem hdr_length (tag : Int) (n : Nat) : (hdr tag n).length = if n < 128 then 2 else 2 + lenOcts n := by
  unfold hdr
  split
  · rfl
  · simp [bytesOf_length]; omega

theorem hdr_length_le (tag : Int) (n : Nat) : (hdr tag n).length ≤ 5 := by
  rw [hdr_length]
  unfold lenOcts
  repeat' split
  all_goals omega

theorem encInt_length (v : Int) : (encInt v).length = 2 + octs v := by
  have := octs_range v
  simp [encInt, bytesOf_length, hdr_length]
  omega

theorem encEl_length (tag : Int) (c : List Int) : (encEl tag c).length = (hdr tag c.length).length + c.length := by simp [encEl]

/-- Every element is an octet. -/
def Octets (l : List Int) : Prop := ∀ z ∈ l, 0 ≤ z ∧ z < 256

theorem Octets.app {a b : List Int} (ha : Octets a) (hb : Octets b) : Octets (a ++ b) := by
  intro z hz
  rcases List.mem_append.1 hz with h | h
  · exact ha z h
  · exact hb z h

theorem octets_bytesOf (v : Int) (n : Nat) : Octets (bytesOf v n) := by
  induction n with
  | zero => intro z hz; simp [bytesOf] at hz
  | succ n ih =>
    intro z hz
    rcases List.mem_cons.1 hz with rfl | h
    · exact shB_range _ _
    · exact ih z h

/-- 'x << 8 | b' where nothing is lost. -/
theorem or_i64 (x b : Int) (h0 : 0 ≤ b) (h1 : b < 256) (h2 : -9223372036854775808 ≤ x * 256) (h3 : x * 256 < 9223372036854775808) : bits .or .i64 (x * 256) b = x * 256 + b := by
  obtain ⟨B, rfl⟩ := Int.eq_ofNat_of_zero_le h0
  show IntKind.i64.wrap ((BitVec.ofInt 64 (x * 256) ||| BitVec.ofInt 64 (B : Int)).toNat : Int) = _
  have e1 : ((BitVec.ofInt 64 (x * 256)).toNat : Int) = x * 256 % 18446744073709551616 := by
    rw [BitVec.toNat_ofInt]
    omega
  have e2 : (BitVec.ofInt 64 (B : Int)).toNat = B := by
    rw [BitVec.ofInt_natCast, BitVec.toNat_ofNat]
    omega
  rw [BitVec.toNat_or, e2]
  have e3 : (BitVec.ofInt 64 (x * 256)).toNat % 256 = 0 := by omega
  rw [nat_join 8 _ _ e3 (by omega)]
  simp only [IntKind.wrap, IntKind.bits, IntKind.signed]
  simp
  omega

theorem octs_le1 (v : Int) : octs v ≤ 1 ↔ (-128 ≤ v ∧ v < 128) := by
  unfold octs
  repeat' split
  all_goals omega
theorem octs_le2 (v : Int) : octs v ≤ 2 ↔ (-32768 ≤ v ∧ v < 32768) := by
  unfold octs
  repeat' split
  all_goals omega
theorem octs_le3 (v : Int) : octs v ≤ 3 ↔ (-8388608 ≤ v ∧ v < 8388608) := by
  unfold octs
  repeat' split
  all_goals omega
theorem octs_le4 (v : Int) : octs v ≤ 4 ↔ (-2147483648 ≤ v ∧ v < 2147483648) := by
  unfold octs
  repeat' split
  all_goals omega
theorem octs_le5 (v : Int) : octs v ≤ 5 ↔ (-549755813888 ≤ v ∧ v < 549755813888) := by
  unfold octs
  repeat' split
  all_goals omega
theorem octs_le6 (v : Int) : octs v ≤ 6 ↔ (-140737488355328 ≤ v ∧ v < 140737488355328) := by
  unfold octs
  repeat' split
  all_goals omega
theorem octs_le7 (v : Int) : octs v ≤ 7 ↔ (-36028797018963968 ≤ v ∧ v < 36028797018963968) := by
  unfold octs
  repeat' split
  all_goals omega
theorem test_yes2 (v : Int) (h : octs v < 2) : (v / 128 == v / 9223372036854775808) = true := by
  have := (octs_le1 v).1 (by omega)
  rw [beq_iff_eq]
  omega
theorem test_no2 (v : Int) (h : octs v = 2) (h0 : -9223372036854775808 ≤ v) (h1 : v ≤ 9223372036854775807) : (v / 128 == v / 9223372036854775808) = false := by
  have : ¬ (-128 ≤ v ∧ v < 128) := fun q => by have := (octs_le1 v).2 q; omega
  rw [beq_eq_false_iff_ne]
  omega
theorem test_yes3 (v : Int) (h : octs v < 3) : (v / 32768 == v / 9223372036854775808) = true := by
  have := (octs_le2 v).1 (by omega)
  rw [beq_iff_eq]
  omega
theorem test_no3 (v : Int) (h : octs v = 3) (h0 : -9223372036854775808 ≤ v) (h1 : v ≤ 9223372036854775807) : (v / 32768 == v / 9223372036854775808) = false := by
  have : ¬ (-32768 ≤ v ∧ v < 32768) := fun q => by have := (octs_le2 v).2 q; omega
  rw [beq_eq_false_iff_ne]
  omega
theorem test_yes4 (v : Int) (h : octs v < 4) : (v / 8388608 == v / 9223372036854775808) = true := by
  have := (octs_le3 v).1 (by omega)
  rw [beq_iff_eq]
  omega
theorem test_no4 (v : Int) (h : octs v = 4) (h0 : -9223372036854775808 ≤ v) (h1 : v ≤ 9223372036854775807) : (v / 8388608 == v / 9223372036854775808) = false := by
  have : ¬ (-8388608 ≤ v ∧ v < 8388608) := fun q => by have := (octs_le3 v).2 q; omega
  rw [beq_eq_false_iff_ne]
  omega
theorem test_yes5 (v : Int) (h : octs v < 5) : (v / 2147483648 == v / 9223372036854775808) = true := by
  have := (octs_le4 v).1 (by omega)
  rw [beq_iff_eq]
  omega
theorem test_no5 (v : Int) (h : octs v = 5) (h0 : -9223372036854775808 ≤ v) (h1 : v ≤ 9223372036854775807) : (v / 2147483648 == v / 9223372036854775808) = false := by
  have : ¬ (-2147483648 ≤ v ∧ v < 2147483648) := fun q => by have := (octs_le4 v).2 q; omega
  rw [beq_eq_false_iff_ne]
  omega
theorem test_yes6 (v : Int) (h : octs v < 6) : (v / 549755813888 == v / 9223372036854775808) = true := by
  have := (octs_le5 v).1 (by omega)
  rw [beq_iff_eq]
  omega
theorem test_no6 (v : Int) (h : octs v = 6) (h0 : -9223372036854775808 ≤ v) (h1 : v ≤ 9223372036854775807) : (v / 549755813888 == v / 9223372036854775808) = false := by
  have : ¬ (-549755813888 ≤ v ∧ v < 549755813888) := fun q => by have := (octs_le5 v).2 q; omega
  rw [beq_eq_false_iff_ne]
  omega
theorem test_yes7 (v : Int) (h : octs v < 7) : (v / 140737488355328 == v / 9223372036854775808) = true := by
  have := (octs_le6 v).1 (by omega)
  rw [beq_iff_eq]
  omega
theorem test_no7 (v : Int) (h : octs v = 7) (h0 : -9223372036854775808 ≤ v) (h1 : v ≤ 9223372036854775807) : (v / 140737488355328 == v / 9223372036854775808) = false := by
  have : ¬ (-140737488355328 ≤ v ∧ v < 140737488355328) := fun q => by have := (octs_le6 v).2 q; omega
  rw [beq_eq_false_iff_ne]
  omega
theorem test_yes8 (v : Int) (h : octs v < 8) : (v / 36028797018963968 == v / 9223372036854775808) = true := by
  have := (octs_le7 v).1 (by omega)
  rw [beq_iff_eq]
  omega
theorem test_no8 (v : Int) (h : octs v = 8) (h0 : -9223372036854775808 ≤ v) (h1 : v ≤ 9223372036854775807) : (v / 36028797018963968 == v / 9223372036854775808) = false := by
  have : ¬ (-36028797018963968 ≤ v ∧ v < 36028797018963968) := fun q => by have := (octs_le7 v).2 q; omega
  rw [beq_eq_false_iff_ne]
  omega

theorem int_range (v : Int) (k : Nat) (hk : octs v = k) (h0 : -9223372036854775808 ≤ v) (h1 : v ≤ 9223372036854775807) : -2 ^ (8 * k - 1) ≤ v ∧ v < 2 ^ (8 * k - 1) := by
  have hr := octs_range v
  rcases (show k = 1 ∨ k = 2 ∨ k = 3 ∨ k = 4 ∨ k = 5 ∨ k = 6 ∨ k = 7 ∨ k = 8 from by omega) with rfl | rfl | rfl | rfl | rfl | rfl | rfl | rfl
  · have := (octs_le1 v).1 (by omega)
    simpa using this
  · have := (octs_le2 v).1 (by omega)
    simpa using this
  · have := (octs_le3 v).1 (by omega)
    simpa using this
  · have := (octs_le4 v).1 (by omega)
    simpa using this
  · have := (octs_le5 v).1 (by omega)
    simpa using this
  · have := (octs_le6 v).1 (by omega)
    simpa using this
  · have := (octs_le7 v).1 (by omega)
    simpa using this
  · simp
    omega

theorem sign_of (v : Int) (k : Nat) (hk : octs v = k) (h0 : -9223372036854775808 ≤ v) (h1 : v ≤ 9223372036854775807) : (v < 0 → 128 ≤ shB v (k - 1) ∧ v / 2 ^ (8 * k) = -1) ∧ (0 ≤ v → shB v (k - 1) < 128 ∧ v / 2 ^ (8 * k) = 0) := by
  have hr := octs_range v
  have hi := int_range v k hk h0 h1
  rcases (show k = 1 ∨ k = 2 ∨ k = 3 ∨ k = 4 ∨ k = 5 ∨ k = 6 ∨ k = 7 ∨ k = 8 from by omega) with rfl | rfl | rfl | rfl | rfl | rfl | rfl | rfl
  all_goals
    clear hk
    simp [shB] at hi ⊢
    omega

theorem first_two (v : Int) (k : Nat) (hk : octs v = k) (h2 : 2 ≤ k) (h0 : -9223372036854775808 ≤ v) (h1 : v ≤ 9223372036854775807) : (shB v (k - 1) = 0 → 128 ≤ shB v (k - 2)) ∧ (shB v (k - 1) = 255 → shB v (k - 2) < 128) := by
  have hr := octs_range v
  have hi := int_range v k hk h0 h1
  rcases (show k = 2 ∨ k = 3 ∨ k = 4 ∨ k = 5 ∨ k = 6 ∨ k = 7 ∨ k = 8 from by omega) with rfl | rfl | rfl | rfl | rfl | rfl | rfl
  · have hn : ¬ (-128 ≤ v ∧ v < 128) := fun q => by have := (octs_le1 v).2 q; omega
    clear hk
    simp [shB] at hi ⊢
    omega
  · have hn : ¬ (-32768 ≤ v ∧ v < 32768) := fun q => by have := (octs_le2 v).2 q; omega
    clear hk
    simp [shB] at hi ⊢
    omega
  · have hn : ¬ (-8388608 ≤ v ∧ v < 8388608) := fun q => by have := (octs_le3 v).2 q; omega
    clear hk
    simp [shB] at hi ⊢
    omega
  · have hn : ¬ (-2147483648 ≤ v ∧ v < 2147483648) := fun q => by have := (octs_le4 v).2 q; omega
    clear hk
    simp [shB] at hi ⊢
    omega
  · have hn : ¬ (-549755813888 ≤ v ∧ v < 549755813888) := fun q => by have := (octs_le5 v).2 q; omega
    clear hk
    simp [shB] at hi ⊢
    omega
  · have hn : ¬ (-140737488355328 ≤ v ∧ v < 140737488355328) := fun q => by have := (octs_le6 v).2 q; omega
    clear hk
    simp [shB] at hi ⊢
    omega
  · have hn : ¬ (-36028797018963968 ≤ v ∧ v < 36028797018963968) := fun q => by have := (octs_le7 v).2 q; omega
    clear hk
    simp [shB] at hi ⊢
    omega

theorem ediv_bounds (v : Int) (m : Nat) (h0 : -9223372036854775808 ≤ v) (h1 : v ≤ 9223372036854775807) : -9223372036854775808 ≤ v / 2 ^ m ∧ v / 2 ^ m ≤ 9223372036854775807 := by
  have hp : (0 : Int) < 2 ^ m := Int.pow_pos (by omega)
  constructor
  · rw [Int.le_ediv_iff_mul_le hp]
    have h3 : (1 : Int) ≤ 2 ^ m := by omega
    have := Int.mul_le_mul_of_nonneg_left h3 (show (0 : Int) ≤ 9223372036854775808 by omega)
    rw [Int.neg_mul]
    omega
  · by_cases hv : 0 ≤ v
    · have := Int.ediv_le_self (a := v) (2 ^ m) hv
      omega
    · have : v / 2 ^ m < 0 := Int.ediv_neg_of_neg_of_pos (by omega) hp
      omega

#print axioms first_two
#print axioms ediv_bounds
#print axioms or_i64
#print axioms div_step
end Go.Proofs.Qxb6617624a
