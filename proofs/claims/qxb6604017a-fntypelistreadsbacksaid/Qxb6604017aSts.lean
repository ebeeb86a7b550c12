import Derived.Test.Qxb6604017aProg
import Derived.WalkKit
import Derived.WalkSpells
import Derived.WalkSmall
import Derived.Deep.QuietTactic
import Derived.BigQuiet
namespace Go.Proofs.Qxb6604017a
open Go.RowKit

/-- A kind of subject: type, wildcard, relation. -/
structure K3 where
  ty : ByteArray
  wild : Bool
  rel : ByteArray

/-- A slice of ST as it came in. -/
def STs (w : World) (a : Option Addr) (len cap : Nat) (ts : List K3) : Prop :=
  ts.length = len ∧ len ≤ cap ∧ cap ≤ maxLen ∧ ((len = 0 ∧ (a = none → cap = 0)) ∨ ∃ b off, a = some ⟨b, off, none⟩ ∧ ∀ (i : Nat) (t : K3), ts[i]? = some t →
    w.cell? ⟨b, off + i * 3, none⟩ = some (.string t.ty) ∧ w.cell? ⟨b, off + i * 3 + 1, none⟩ = some (.bool t.wild) ∧ w.cell? ⟨b, off + i * 3 + 2, none⟩ = some (.string t.rel) ∧ t.ty.size ≤ maxLen ∧ t.rel.size ≤ maxLen)
theorem STs.below {w w' : World} {a : Option Addr} {len cap : Nat} {ts : List K3} (h : STs w a len cap ts) (hb : Below w.heap.size w w') : STs w' a len cap ts := by
  refine ⟨h.1, h.2.1, h.2.2.1, h.2.2.2.imp id fun ⟨b, off, h1, h2⟩ => ⟨b, off, h1, fun i t ht => ?_⟩⟩
  obtain ⟨c1, c2, c3, c4, c5⟩ := h2 i t ht
  exact ⟨(hb.cell (World.block_lt_of_cell? _ _ c1)).trans c1, (hb.cell (World.block_lt_of_cell? _ _ c2)).trans c2, (hb.cell (World.block_lt_of_cell? _ _ c3)).trans c3, c4, c5⟩

def ZOut (w : World) (e : Ending) (w' : World) : Prop := ∃ b, e = .returned (.bool b) ∧ w = w'
theorem zout_mk {w : World} (b : Bool) : ZOut w (.returned (.bool b)) w := ⟨b, rfl, rfl⟩

set_option maxHeartbeats 2000000 in
set_option maxRecDepth 100000 in
theorem zzb15 (s p : ByteArray) (a : Option Addr) (len cap : Nat) (i : Int) (ts : List K3) (w : World) (hs : s.size ≤ maxLen) (hp : p.size ≤ maxLen) (h : STs w a len cap ts) :
    Calls Try.prog 15 #[.string s, .slice a len cap, .int .i64 i, .string p] w fun e w' => ZOut w e w' := by
  obtain ⟨hl, hlc, hcm, hst⟩ := h
  unfold maxLen at hs hp hcm
  have HS : Hid ((len = 0 ∧ (a = none → cap = 0)) ∨ ∃ b off, a = some ⟨b, off, none⟩ ∧ ∀ (i : Nat) (t : K3), ts[i]? = some t →
    w.cell? ⟨b, off + i * 3, none⟩ = some (.string t.ty) ∧ w.cell? ⟨b, off + i * 3 + 1, none⟩ = some (.bool t.wild) ∧ w.cell? ⟨b, off + i * 3 + 2, none⟩ = some (.string t.rel) ∧ t.ty.size ≤ maxLen ∧ t.rel.size ≤ maxLen) := hst
  have HL : Hid (ts.length = len) := hl
  clear hst hl
  by_cases c1 : (1048576 : Int) < (s.size : Int)
  · go_enter Try.func15, Try.ntmps15
    go_wp2
    go_ret
    exact zout_mk _
  by_cases c2 : (1048576 : Int) < (len : Int)
  · go_enter Try.func15, Try.ntmps15
    go_wp2
    go_ret
    exact zout_mk _
  by_cases c3 : (1048576 : Int) < (s.size : Int) + (len : Int)
  · go_enter Try.func15, Try.ntmps15
    go_wp2
    go_ret
    exact zout_mk _
  go_enter Try.func15, Try.ntmps15
  go_wp2
  go_loop [9, 10] (fun z i => ∃ (n : Int) (k : Nat), z = .int .i64 n ∧ 0 ≤ n ∧ n ≤ 1048576 ∧ k ≤ len ∧ i = .int .i64 k) (fun _ i => len - (intOf i).toNat)
  case atStart => exact ⟨_, 0, rfl, by omega, by omega, by omega, rfl⟩
  case round =>
    obtain ⟨n, k, rfl, hn0, hn1, hk, rfl⟩ := hrel
    by_cases hlt : k < len
    · obtain ⟨t, ht⟩ : ∃ t, ts[k]? = some t := ⟨_, List.getElem?_eq_getElem (by rw [HL.out]; exact hlt)⟩
      rcases HS.out with ⟨h0, _⟩ | ⟨b, off, rfl, hcs⟩
      · omega
      obtain ⟨x1, x2, x3, m1, m2⟩ := hcs k t ht
      unfold maxLen at m1 m2
      clear hcs ht
      go_wp2
      all_goals first
        | (go_ret
           exact zout_mk _)
        | (go_round
           case rel => exact ⟨_, k + 1, rfl, by omega, by omega, by omega, by go_num⟩
           case measure => simp [intOf]; omega)
    · go_wp2
      all_goals
        go_ret
        exact zout_mk _
set_option maxHeartbeats 2000000 in
set_option maxRecDepth 100000 in
theorem zzb10 (s : ByteArray) (a : Option Addr) (len cap : Nat) (ts : List K3) (w : World) (hs : s.size ≤ maxLen) (h : STs w a len cap ts) :
    Calls Try.prog 10 #[.string s, .slice a len cap] w fun e w' => ZOut w e w' := by
  obtain ⟨hl, hlc, hcm, hst⟩ := h
  unfold maxLen at hs hcm
  have HS : Hid ((len = 0 ∧ (a = none → cap = 0)) ∨ ∃ b off, a = some ⟨b, off, none⟩ ∧ ∀ (i : Nat) (t : K3), ts[i]? = some t →
    w.cell? ⟨b, off + i * 3, none⟩ = some (.string t.ty) ∧ w.cell? ⟨b, off + i * 3 + 1, none⟩ = some (.bool t.wild) ∧ w.cell? ⟨b, off + i * 3 + 2, none⟩ = some (.string t.rel) ∧ t.ty.size ≤ maxLen ∧ t.rel.size ≤ maxLen) := hst
  have HL : Hid (ts.length = len) := hl
  clear hst hl
  by_cases c1 : (1048576 : Int) < (s.size : Int)
  · go_enter Try.func10, Try.ntmps10
    go_wp2
    go_ret
    exact zout_mk _
  by_cases c2 : (1048576 : Int) < (len : Int)
  · go_enter Try.func10, Try.ntmps10
    go_wp2
    go_ret
    exact zout_mk _
  by_cases c3 : (1048576 : Int) < (s.size : Int) + (len : Int)
  · go_enter Try.func10, Try.ntmps10
    go_wp2
    go_ret
    exact zout_mk _
  go_enter Try.func10, Try.ntmps10
  go_wp2
  go_loop [5, 6] (fun z i => ∃ (n : Int) (k : Nat), z = .int .i64 n ∧ 0 ≤ n ∧ n ≤ 1048576 ∧ k ≤ len ∧ i = .int .i64 k) (fun _ i => len - (intOf i).toNat)
  case atStart => exact ⟨_, 0, rfl, by omega, by omega, by omega, rfl⟩
  case round =>
    obtain ⟨n, k, rfl, hn0, hn1, hk, rfl⟩ := hrel
    by_cases hlt : k < len
    · obtain ⟨t, ht⟩ : ∃ t, ts[k]? = some t := ⟨_, List.getElem?_eq_getElem (by rw [HL.out]; exact hlt)⟩
      rcases HS.out with ⟨h0, _⟩ | ⟨b, off, rfl, hcs⟩
      · omega
      obtain ⟨x1, x2, x3, m1, m2⟩ := hcs k t ht
      unfold maxLen at m1 m2
      clear hcs ht
      go_wp2
      all_goals first
        | (go_ret
           exact zout_mk _)
        | (go_round
           case rel => exact ⟨_, k + 1, rfl, by omega, by omega, by omega, by go_num⟩
           case measure => simp [intOf]; omega)
    · go_wp2
      all_goals
        go_ret
        exact zout_mk _
/-- stBytes answers some number. -/
def NOut (w : World) (e : Ending) (w' : World) : Prop := ∃ n q, e = .returned (.int .i64 n) ∧ w' = w.drewN q
set_option maxHeartbeats 2000000 in
set_option maxRecDepth 100000 in
theorem stbytes_any (a : Option Addr) (len cap : Nat) (ts : List K3) (w : World) (hlen : len ≤ 65536) (h : STs w a len cap ts) :
    Calls Try.prog 11 #[.slice a len cap] w fun e w' => NOut w e w' := by
  obtain ⟨hl, hlc, hcm, hst⟩ := h
  unfold maxLen at hcm
  have HS : Hid ((len = 0 ∧ (a = none → cap = 0)) ∨ ∃ b off, a = some ⟨b, off, none⟩ ∧ ∀ (i : Nat) (t : K3), ts[i]? = some t →
    w.cell? ⟨b, off + i * 3, none⟩ = some (.string t.ty) ∧ w.cell? ⟨b, off + i * 3 + 1, none⟩ = some (.bool t.wild) ∧ w.cell? ⟨b, off + i * 3 + 2, none⟩ = some (.string t.rel) ∧ t.ty.size ≤ maxLen ∧ t.rel.size ≤ maxLen) := hst
  have HL : Hid (ts.length = len) := hl
  clear hst hl
  go_enter Try.func11, Try.ntmps11
  go_wp2
  go_loopw [3, 4] (fun z i wr => ∃ (n : Int) (k : Nat) (q : Nat), z = .int .i64 n ∧ 0 ≤ n ∧ n ≤ 3000000 ∧ k ≤ len ∧ i = .int .i64 k ∧ wr = w.drewN q) (fun _ i _ => len - (intOf i).toNat)
  case atStart => exact ⟨_, 0, 0, rfl, by omega, by omega, by omega, rfl, rfl⟩
  case round =>
    obtain ⟨n, k, q, rfl, hn0, hn1, hk, rfl, rfl⟩ := hrel
    by_cases hlt : k < len
    · obtain ⟨t, ht⟩ : ∃ t, ts[k]? = some t := ⟨_, List.getElem?_eq_getElem (by rw [HL.out]; exact hlt)⟩
      rcases HS.out with ⟨h0, _⟩ | ⟨b, off, rfl, hcs⟩
      · omega
      obtain ⟨x1, x2, x3, m1, m2⟩ := hcs k t ht
      unfold maxLen at m1 m2
      have i0 : (0 : Int) ≤ (k : Int) := by omega
      have i1 : (k : Int) < (len : Int) := by omega
      clear hcs ht
      by_cases c1 : (1048576 : Int) < (t.ty.size : Int)
      · go_wp2
        go_ret
        exact ⟨_, _, rfl, rfl⟩
      by_cases c2 : (1048576 : Int) < (t.rel.size : Int)
      · go_wp2
        go_ret
        exact ⟨_, _, rfl, rfl⟩
      go_wp2_with fail
      go_quiet (fail)
      go_wp2
      · go_ret
        exact ⟨_, _, rfl, rfl⟩
      · go_roundw
        case rel => exact ⟨_, k + 1, _, rfl, by omega, by omega, by omega, by go_num, rfl⟩
        case measure => simp [intOf]; omega
    · go_wp2
      go_ret
      exact ⟨_, _, rfl, rfl⟩
end Go.Proofs.Qxb6604017a
