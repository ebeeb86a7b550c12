import Derived.Test.Qxb6603951aArr
namespace Go.Proofs.Qxb6603951a
open Go.RowKit

/-! ### The stream decoder as plain Lean: its state after k bytes of s. -/
structure St where
  got : List Int
  es : Int
  ed : Int
  br : Bool

def step (t : St) (c : Int) : St := ⟨if dOk t.es c then t.got ++ [dOut t.es t.ed c] else t.got, dEs t.es c, dEd t.es t.ed c, dBr t.es t.br c⟩
def byteAt (s : ByteArray) (k : Nat) : Int := if h : k < s.size then (s[k].toNat : Int) else 0
def M (s : ByteArray) : Nat → St
  | 0 => ⟨[], 0, 0, false⟩
  | k + 1 => step (M s k) (byteAt s k)

theorem byteAt_eq (s : ByteArray) (k : Nat) (h : k < s.size) : byteAt s k = (s[k].toNat : Int) := by simp [byteAt, h]
theorem byteAt_bd (s : ByteArray) (k : Nat) : 0 ≤ byteAt s k ∧ byteAt s k ≤ 255 := by
  unfold byteAt
  split
  · have := UInt8.toNat_lt s[k]; omega
  · omega
theorem M_len (s : ByteArray) (k : Nat) : (M s k).got.length ≤ k := by
  induction k with
  | zero => simp [M]
  | succ k ih =>
    simp only [M, step]
    split
    · simp; omega
    · omega
theorem M_succ {s : ByteArray} {k : Nat} {gt : List Int} {es ed : Int} {br : Bool} (h : M s k = ⟨gt, es, ed, br⟩) (hk : k < s.size) :
    M s (k + 1) = ⟨if dOk es (s[k].toNat : Int) then gt ++ [dOut es ed (s[k].toNat : Int)] else gt, dEs es (s[k].toNat : Int), dEd es ed (s[k].toNat : Int), dBr es br (s[k].toNat : Int)⟩ := by
  simp only [M, h, step, byteAt_eq s k hk]

theorem M_plus {s : ByteArray} {k : Nat} {gt : List Int} {ed : Int} {br : Bool} (h : M s k = ⟨gt, 0, ed, br⟩) (hk : k < s.size) (hc : (s[k].toNat : Int) = 43) : M s (k + 1) = ⟨gt ++ [32], 0, ed, br⟩ := by
  rw [M_succ h hk, hc]; simp [dOk, dOut, dEs, dEd, dBr]
theorem M_self {s : ByteArray} {k : Nat} {gt : List Int} {ed : Int} {br : Bool} (h : M s k = ⟨gt, 0, ed, br⟩) (hk : k < s.size) (hc : (s[k].toNat : Int) ≠ 43) (hp : (s[k].toNat : Int) ≠ 37) : M s (k + 1) = ⟨gt ++ [(s[k].toNat : Int)], 0, ed, br⟩ := by
  rw [M_succ h hk]; simp only [dOk, dOut, dEs, dEd, dBr, if_pos, if_neg hp, if_neg hc]; simp [hp]
theorem M_pct {s : ByteArray} {k : Nat} {gt : List Int} {ed : Int} {br : Bool} (h : M s k = ⟨gt, 0, ed, br⟩) (hk : k < s.size) (hc : (s[k].toNat : Int) = 37) : M s (k + 1) = ⟨gt, 1, ed, br⟩ := by
  rw [M_succ h hk, hc]; simp [dOk, dEs, dEd, dBr]
theorem M_hi {s : ByteArray} {k : Nat} {gt : List Int} {ed : Int} {br : Bool} (h : M s k = ⟨gt, 1, ed, br⟩) (hk : k < s.size) : M s (k + 1) = ⟨gt, 2, hexv (s[k].toNat : Int) * 16, br || !hexok (s[k].toNat : Int)⟩ := by
  rw [M_succ h hk]; simp [dOk, dEs, dEd, dBr]
theorem or_add (a b : Int) (h0 : 0 ≤ a) (h1 : a ≤ 15) (h2 : 0 ≤ b) (h3 : b ≤ 15) : bits BinOp.or IntKind.u8 (a * 16) b = a * 16 + b := by
  obtain ⟨a, rfl⟩ := Int.eq_ofNat_of_zero_le h0
  obtain ⟨b, rfl⟩ := Int.eq_ofNat_of_zero_le h2
  have : ∀ a b : Fin 16, bits BinOp.or IntKind.u8 (((a : Nat) : Int) * 16) ((b : Nat) : Int) = ((a : Nat) : Int) * 16 + ((b : Nat) : Int) := by decide +kernel
  exact this ⟨a, by omega⟩ ⟨b, by omega⟩
theorem M_lo {s : ByteArray} {k : Nat} {gt : List Int} {x : Int} {br : Bool} (h : M s k = ⟨gt, 2, hexv x * 16, br⟩) (hk : k < s.size) :
    M s (k + 1) = ⟨gt ++ [hexv x * 16 + hexv (s[k].toNat : Int)], 0, hexv x * 16 + hexv (s[k].toNat : Int), br || !hexok (s[k].toNat : Int)⟩ := by
  have b1 := hexv_bd x
  have b2 := hexv_bd (s[k].toNat : Int)
  rw [M_succ h hk]; simp [dOk, dOut, dEs, dEd, dBr, or_add _ _ b1.1 b1.2 b2.1 b2.2]
end Go.Proofs.Qxb6603951a
