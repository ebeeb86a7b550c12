import Derived.Test.Qxb6603969aEsc
namespace Go.Proofs.Qxb6603969a
open Go.RowKit

/-- hasPrefix, where b is out's prefix. -/
theorem prefix_any (g cap N : Nat) (ao : Option Addr) (n : Nat) (xs zs : List Int) (w : World) (hb : CB w ao n xs) (hN : N ≤ 9007199254740992) (hnN : n ≤ N)
    (ho : ∀ j x, (xs ++ zs)[j]? = some x → w.cell? ⟨g, j, none⟩ = some (.int .u8 x)) :
    Calls Try.prog 13 #[.slice (some ⟨g, 0, none⟩) N cap, .slice ao n n] w fun e w' => e = .returned (.bool true) ∧ Below w.heap.size w w' := by
  have hlen := hb.1
  go_enter Try.func13, Try.ntmps13
  go_wp2
  go_loopw [5] (fun i wx => ∃ k : Nat, k ≤ n ∧ i = .int .i64 k ∧ ∃ q, wx = w.drewN q) (fun i _ => n - (intOf i).toNat)
  case atStart => exact ⟨0, Nat.zero_le _, rfl, 0, rfl⟩
  case round =>
    obtain ⟨k, hk, rfl, q, rfl⟩ := hrel
    by_cases hlt : k < n
    · obtain ⟨x, hx⟩ : ∃ x, xs[k]? = some x := ⟨_, List.getElem?_eq_getElem (by omega)⟩
      have h1 := ho k x (by rw [List.getElem?_append_left (by omega)]; exact hx)
      rcases hb.2 with ⟨_, h0⟩ | ⟨g2, rfl, hg2⟩
      · omega
      · have h2 : w.cell? ⟨g2, k, none⟩ = some (.int .u8 x) := by simp only [World.cell?, hg2]; simpa using hx
        have i1 : (k : Int) < (n : Int) := by omega
        have i2 : (k : Int) < (N : Int) := by omega
        have i0 : (0 : Int) ≤ (k : Int) := by omega
        clear ho hg2 hx
        go_wp2_with fail
        go_quiet (fail)
        go_wp2
        go_roundw
        case rel => exact ⟨k + 1, by omega, by go_num, _, rfl⟩
        case measure => simp [intOf]; omega
    · clear ho
      go_wp2
      go_ret
      exact ⟨rfl, below_drewN (Below.refl _ _) _⟩
end Go.Proofs.Qxb6603969a
