import Derived.Test.Qxb6603969aPlain
import Derived.Deep.QuietTactic
import Derived.BigQuiet
import Derived.Laws.CopyOwn
import Derived.Deep.DeepCutAuto
namespace Go.Proofs.Qxb6603969a
open Go.RowKit
theorem Try.info5 : (Try.prog.info? 5).map (fun i => (i.zero, i.size, i.bytes)) = some (some (.int .u8 0), 1, 1) := by kernel_rfl

/-- zzBytes_FnPresentationReadsBackExactly answers, and turns nothing. -/
def ZOut (w : World) (e : Ending) (w' : World) : Prop := ∃ b, e = .returned (.bool b) ∧ w = w'
theorem zout_mk {w : World} (b : Bool) : ZOut w (.returned (.bool b)) w := ⟨b, rfl, rfl⟩
theorem zzb8 (s : ByteArray) (ao : Option Addr) (n c : Nat) (w : World) (hs : s.size ≤ maxLen) (hn : n ≤ maxLen) :
    Calls Try.prog 8 #[.string s, .slice ao n c] w fun e w' => ZOut w e w' := by
  unfold maxLen at hs hn
  go_enter Try.func8, Try.ntmps8
  go_wp2
  all_goals
    go_ret
    exact zout_mk _

/-- ZZNameFromWire. -/
theorem name_any (s : ByteArray) (w : World) :
    Calls Try.prog 11 #[.string s] w fun e w' => e = .returned (.agg #[.string s]) ∧ Below w.heap.size w w' := by
  go_enter Try.func11, Try.ntmps11
  go_wp2
  exact bodyPost_ret (v := .agg #[.string s]) (by simp [results, Try.results11, go_sem]) rfl ⟨rfl, by repeat (first | exact Below.refl _ _ | refine Below.drew ?_ | refine Below.alloc ?_ (by first | (simp; done) | (simp; omega)) _)⟩

/-- (Name).label: the octets behind the length octet at off. -/
theorem label_any (s : ByteArray) (off : Nat) (w : World) (h0 : off < s.size) (hs : s.size ≤ 255) (h1 : off + 1 + s[off].toNat ≤ s.size) :
    Calls Try.prog 29 #[.agg #[.string s], .int .u8 (off : Int)] w fun e w' => e = .returned (.string (s.extract (off + 1) (off + 1 + s[off].toNat))) ∧ Below w.heap.size w w' := by
  have hb := UInt8.toNat_lt s[off]
  have i0 : (0 : Int) ≤ (off : Int) := by omega
  have i1 : (off : Int) < (s.size : Int) := by omega
  have i2 : (off : Int) + 1 ≤ (off : Int) + 1 + (s[off].toNat : Int) := by omega
  have i3 : (off : Int) + 1 + (s[off].toNat : Int) ≤ (s.size : Int) := by omega
  go_enter Try.func29, Try.ntmps29
  go_wp2
  go_quiet (fail)
  go_wp2
  go_ret
  exact ⟨rfl, by repeat (first | exact Below.refl _ _ | refine Below.drew ?_ | refine below_drewN ?_ _ | refine Below.alloc ?_ (by first | (simp; done) | (simp; omega)) _)⟩
theorem own_full {w : World} {b : Nat} {e : TypeId} {g n : Nat} {xs : List Value} (h : w.ownsRow b e 1 (.slice (some ⟨g, 0, none⟩) n n) n xs) : w.heap[g]? = some (.cells xs.toArray e) := by
  obtain ⟨hl, h2⟩ := h
  rcases h2 with ⟨h, _⟩ | ⟨g', cap, cur, hv, _, hh, _, _, hs, ht⟩
  · simp at h
  · simp only [Value.slice.injEq, Option.some.injEq, Addr.mk.injEq, and_true, true_and] at hv
    obtain ⟨rfl, rfl⟩ := hv
    rw [hh]
    have : cur.toList = xs := by
      rw [← ht]
      exact (List.take_of_length_le (by simpa using Nat.le_of_eq hs)).symm
    rw [← this]
/-- A slice of bytes whose row is no longer than its length: nil, or a row of the numbers xs. -/
def CB (w : World) (ao : Option Addr) (n : Nat) (xs : List Int) : Prop :=
  xs.length = n ∧ ((ao = none ∧ n = 0) ∨ ∃ g, ao = some ⟨g, 0, none⟩ ∧ w.heap[g]? = some (.cells (xs.map (Value.int .u8)).toArray 5))

/-- WHAT THE WALK IS TOLD OF A SLICE OF INTEGERS THAT CAME IN (the shell's words). -/
def IsRow (k : IntKind) (w : World) (a : Option Addr) (len cap : Nat) (zs : List Int) : Prop :=
  (a = none ∧ len = 0 ∧ cap = 0 ∧ zs = []) ∨
  ∃ x, a = some x ∧ len ≤ cap ∧ cap ≤ maxLen ∧ zs.length = cap ∧ (∀ i, i < zs.length → w.cell? (x.add i) = some (.int k (zs.getD i 0))) ∧ ∀ n ∈ zs, (Lit.int k n).wf = true

def CloneOut (w : World) (n : Nat) (zs : List Int) (e : Ending) (w' : World) : Prop := ∃ ao, e = .returned (.slice ao n n) ∧ CB w' ao n (zs.take n) ∧ Below w.heap.size w w'

theorem splice_all {α : Type} {L cs : List α} (h : L.length = cs.length) : splice L 0 cs = cs := by
  unfold splice
  rw [List.drop_eq_nil_of_le (by omega)]
  simp
theorem made_copy {w w1 : World} {n : Nat} {x : Addr} {xs cs : List Value} (hown : w1.ownsRow w.heap.size 5 1 (.slice (some ⟨w.heap.size, 0, none⟩) n n) n xs) (hg : w.grownBy w1 none) (hs : ∀ j v, cs[j]? = some v → w.cell? (x.add j) = some v) :
    ∃ cur : List Value, cur.length = n ∧ w1.heap[w.heap.size]? = some (.cells cur.toArray 5 (0, 0)) ∧ (∀ j v, cs[j]? = some v → w1.cell? (x.add j) = some v) ∧ Below w.heap.size w w1 :=
  ⟨xs, by have := hown.1; simpa using this, own_full hown, fun j v hj => hg.cell (hs j v hj) (by simp), (Below.refl _ _).grown hg (Nat.le_refl _) (fun k h => by cases h)⟩

set_option maxRecDepth 100000 in
theorem clone_any (a : Option Addr) (n c : Nat) (zs : List Int) (w : World) (h : IsRow .u8 w a n c zs) (hn : n ≤ 1048576) :
    Calls Try.prog 10 #[.slice a n c] w fun e w' => CloneOut w n zs e w' := by
  obtain ⟨i0, hi, hz0, hz1, hz2⟩ := info_parts Try.info5
  rcases h with ⟨rfl, rfl, rfl, rfl⟩ | ⟨x, rfl, hlc, _, hzl, hcell, _⟩
  · have hq := fun w => Lib.run_eql_slice_nil (P := Try.prog) w 22 5 none 0 0 0 0 Try.underlying22
    go_enter Try.func10, Try.ntmps10
    go_wp2
    go_ret
    exact ⟨none, rfl, ⟨rfl, .inl ⟨rfl, rfl⟩⟩, Below.refl _ _⟩
  · have hq := fun w => Lib.run_eql_slice_nil (P := Try.prog) w 22 5 (some x) n c 0 0 Try.underlying22
    have hlen : ((zs.take n).map (Value.int .u8)).length = n := by simp; omega
    obtain ⟨cs, hcs⟩ : ∃ cs, cs = (zs.take n).map (Value.int .u8) := ⟨_, rfl⟩
    rw [← hcs] at hlen
    have hsrc : ∀ j v, cs[j]? = some v → w.cell? (x.add j) = some v := by
      intro j v hj
      have hjn : j < n := by
        have := (List.getElem?_eq_some_iff.1 hj).1
        omega
      rw [hcell j (by omega)]
      rw [hcs, List.getElem?_map, List.getElem?_take_of_lt hjn, List.getElem?_eq_getElem (by omega)] at hj
      simp only [Option.map_some, Option.some.injEq] at hj
      rw [← hj]
      simp [List.getD, List.getElem?_eq_getElem (show j < zs.length by omega)]
    have hone : ∀ v ∈ cs, v.oneCell' = true := by
      intro v hv
      rw [hcs] at hv
      simp only [List.mem_map] at hv
      obtain ⟨_, _, rfl⟩ := hv
      rfl
    have HC : Hid (cs = (zs.take n).map (Value.int .u8)) := hcs
    have HS : Hid (∀ j v, cs[j]? = some v → w.cell? (x.add j) = some v) := hsrc
    clear hcs hsrc hcell
    go_enter Try.func10, Try.ntmps10
    go_upto_region 4 with ((at_make; refine wpList_make_full _ rfl _ _ 22 rfl w.heap.size 5 i0 (.int .u8 0) 1 Try.underlying22 hi hz0 hz1 _ _ _ _ n rfl rfl (by omega) (by omega) (by rw [hz2]; omega) (by unfold maxLen; omega) (Nat.le_refl _) ?_; intro w1 hown hgrow; obtain ⟨cur, hcl, hcur, hsrc1, hb1⟩ := made_copy hown hgrow HS.out; clear hown hgrow))
    clear HS
    go_wp2_with ((refine wpList_copy_splice rfl (.tmp 9) (.tmp 10) 22 22 rfl 5 Try.underlying22 (by kernel_rfl) _ _ _ _ _ _ rfl rfl w.heap.size 0 cur 5 hcur cs (by rw [hlen]; exact (Nat.min_self n).symm) (fun _ => ⟨rfl, x, rfl, hsrc1⟩) (by omega) hone w.heap.size w hb1 (Nat.le_refl _) ?_; intro w2 HG2 hB2))
    go_ret
    exact ⟨some ⟨w.heap.size, 0, none⟩, rfl, ⟨by simp; omega, .inr ⟨_, rfl, by have := HG2.out; rw [splice_all (by omega), HC.out] at this; exact this⟩⟩, hB2⟩
end Go.Proofs.Qxb6603969a
