import Derived.Test.Qxb6603951aProg
import Derived.WalkKit
import Derived.WalkSpells
namespace Go.Proofs.Qxb6603951a
open Go.RowKit

def hexv (c : Int) : Int := if 48 ≤ c ∧ c ≤ 57 then c - 48 else if 97 ≤ c ∧ c ≤ 102 then c - 87 else if 65 ≤ c ∧ c ≤ 70 then c - 55 else 0
def hexok (c : Int) : Bool := decide ((48 ≤ c ∧ c ≤ 57) ∨ (97 ≤ c ∧ c ≤ 102) ∨ (65 ≤ c ∧ c ≤ 70))

theorem ret_hex {a : Int} {b : Bool} {c : Int} (h1 : a = hexv c) (h2 : b = hexok c) : Ending.returned (.tuple #[.int .u8 a, .bool b]) = .returned (.tuple #[.int .u8 (hexv c), .bool (hexok c)]) := by rw [h1, h2]

theorem unhex_any (c : Int) (h0 : 0 ≤ c) (h1 : c ≤ 255) (w : World) :
    Calls Try.prog 20 #[.int .u8 c] w fun e w' => e = .returned (.tuple #[.int .u8 (hexv c), .bool (hexok c)]) ∧ w' = w := by
  go_enter Try.func20, Try.ntmps20
  go_wp2
  all_goals
    go_ret2
    exact ⟨ret_hex (by unfold hexv; repeat (split <;> try omega)) (by unfold hexok; simp; omega), rfl⟩
theorem hexv_bd (c : Int) : 0 ≤ hexv c ∧ hexv c ≤ 15 := by unfold hexv; repeat (split <;> try omega)

theorem low_hit (k : Nat) (c : Int) (hp : k < (⟨#[48, 49, 50, 51, 52, 53, 54, 55, 56, 57, 97, 98, 99, 100, 101, 102]⟩ : ByteArray).size)
    (e : c = (((⟨#[48, 49, 50, 51, 52, 53, 54, 55, 56, 57, 97, 98, 99, 100, 101, 102]⟩ : ByteArray)[k]'hp).toNat : Int)) : (k : Int) = hexv c ∧ true = hexok c := by
  subst e
  revert hp
  have : ∀ k : Fin 16, ((k : Nat) : Int) = hexv ((⟨#[48, 49, 50, 51, 52, 53, 54, 55, 56, 57, 97, 98, 99, 100, 101, 102]⟩ : ByteArray)[k.1]'k.2).toNat ∧ true = hexok ((⟨#[48, 49, 50, 51, 52, 53, 54, 55, 56, 57, 97, 98, 99, 100, 101, 102]⟩ : ByteArray)[k.1]'k.2).toNat := by decide +kernel
  intro hp
  exact this ⟨k, hp⟩
theorem up_hit (k : Nat) (c : Int) (hp : k < (⟨#[48, 49, 50, 51, 52, 53, 54, 55, 56, 57, 65, 66, 67, 68, 69, 70]⟩ : ByteArray).size)
    (e : c = (((⟨#[48, 49, 50, 51, 52, 53, 54, 55, 56, 57, 65, 66, 67, 68, 69, 70]⟩ : ByteArray)[k]'hp).toNat : Int)) : (k : Int) = hexv c ∧ true = hexok c := by
  subst e
  revert hp
  have : ∀ k : Fin 16, ((k : Nat) : Int) = hexv ((⟨#[48, 49, 50, 51, 52, 53, 54, 55, 56, 57, 65, 66, 67, 68, 69, 70]⟩ : ByteArray)[k.1]'k.2).toNat ∧ true = hexok ((⟨#[48, 49, 50, 51, 52, 53, 54, 55, 56, 57, 65, 66, 67, 68, 69, 70]⟩ : ByteArray)[k.1]'k.2).toNat := by decide +kernel
  intro hp
  exact this ⟨k, hp⟩
/-- Of the first k digits of either case none is c. -/
def NoHit (k : Nat) (c : Int) : Prop := ∀ j : Fin 16, j.1 < k → c ≠ ((⟨#[48, 49, 50, 51, 52, 53, 54, 55, 56, 57, 97, 98, 99, 100, 101, 102]⟩ : ByteArray)[j.1]'j.2).toNat ∧ c ≠ ((⟨#[48, 49, 50, 51, 52, 53, 54, 55, 56, 57, 65, 66, 67, 68, 69, 70]⟩ : ByteArray)[j.1]'j.2).toNat
theorem noHit_none (c : Int) (h0 : 0 ≤ c) (h1 : c ≤ 255) (h : NoHit 16 c) : 0 = hexv c ∧ false = hexok c := by
  obtain ⟨n, rfl⟩ := Int.eq_ofNat_of_zero_le h0
  have key : ∀ n : Fin 256, (∀ j : Fin 16, (n : Nat) ≠ ((⟨#[48, 49, 50, 51, 52, 53, 54, 55, 56, 57, 97, 98, 99, 100, 101, 102]⟩ : ByteArray)[j.1]'j.2).toNat ∧ (n : Nat) ≠ ((⟨#[48, 49, 50, 51, 52, 53, 54, 55, 56, 57, 65, 66, 67, 68, 69, 70]⟩ : ByteArray)[j.1]'j.2).toNat) → 0 = hexv (n : Nat) ∧ false = hexok (n : Nat) := by decide +kernel
  exact key ⟨n, by omega⟩ (fun j => by have := h j j.2; exact ⟨fun e => this.1 (by exact_mod_cast e), fun e => this.2 (by exact_mod_cast e)⟩)
theorem noHit_step (k : Nat) (c : Int) (hp : k < (⟨#[48, 49, 50, 51, 52, 53, 54, 55, 56, 57, 97, 98, 99, 100, 101, 102]⟩ : ByteArray).size) (hp' : k < (⟨#[48, 49, 50, 51, 52, 53, 54, 55, 56, 57, 65, 66, 67, 68, 69, 70]⟩ : ByteArray).size) (h : NoHit k c)
    (n1 : ¬ c = (((⟨#[48, 49, 50, 51, 52, 53, 54, 55, 56, 57, 97, 98, 99, 100, 101, 102]⟩ : ByteArray)[k]'hp).toNat : Int)) (n2 : ¬ c = (((⟨#[48, 49, 50, 51, 52, 53, 54, 55, 56, 57, 65, 66, 67, 68, 69, 70]⟩ : ByteArray)[k]'hp').toNat : Int)) : NoHit (k + 1) c := by
  intro j hj
  by_cases e : j.1 = k
  · subst e; exact ⟨n1, n2⟩
  · exact h j (by omega)

set_option maxHeartbeats 1000000 in
theorem hexval_any (c : Int) (h0 : 0 ≤ c) (h1 : c ≤ 255) (w : World) :
    Calls Try.prog 14 #[.int .u8 c] w fun e w' => e = .returned (.tuple #[.int .u8 (hexv c), .bool (hexok c)]) ∧ w' = w := by
  go_enter Try.func14, Try.ntmps14
  go_wp2
  go_loop [4] (fun i => ∃ k : Nat, k ≤ 16 ∧ i = .int .i64 k ∧ NoHit k c) (fun i => 16 - (intOf i).toNat)
  case atStart => exact ⟨0, by omega, rfl, fun j hj => absurd hj (by omega)⟩
  case round =>
    obtain ⟨k, hk, rfl, hno⟩ := hrel
    by_cases hlt : k < 16
    · go_wp2
      · go_ret2
        exact ⟨ret_hex (low_hit k _ hlt rfl).1 (low_hit k _ hlt rfl).2, rfl⟩
      · rename_i n1 h2 _
        have e2 : c = (((⟨#[48, 49, 50, 51, 52, 53, 54, 55, 56, 57, 65, 66, 67, 68, 69, 70]⟩ : ByteArray)[k]'hlt).toNat : Int) := by
          rcases h2 with h2 | h2
          · exact absurd (by simpa using h2) n1
          · simpa using h2
        go_ret2
        exact ⟨ret_hex (up_hit k c hlt e2).1 (up_hit k c hlt e2).2, rfl⟩
      · rename_i n1 h2
        go_round
        case rel => exact ⟨k + 1, by omega, by go_num, noHit_step k c hlt hlt hno n1 (by simpa using h2.2)⟩
        case measure => simp [intOf]; omega
    · obtain rfl : k = 16 := by omega
      have hn := noHit_none c h0 h1 hno
      have H : Hid (0 = hexv c ∧ false = hexok c) := hn
      clear hn
      go_wp2
      go_ret2
      exact ⟨ret_hex H.out.1 H.out.2, rfl⟩
end Go.Proofs.Qxb6603951a
