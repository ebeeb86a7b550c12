import Derived.Test.Qxb6604017aSchema
namespace Go.Proofs.Qxb6604017a
open Go.RowKit

def NoB (s : ByteArray) (c : Int) : Prop := ∀ (i : Nat) (h : i < s.size), (s[i].toNat : Int) ≠ c
def HOut (s : ByteArray) (c : Int) (w : World) (e : Ending) (w' : World) : Prop := ∃ b, e = .returned (.bool b) ∧ w = w' ∧ (b = false → NoB s c)
theorem hasbyte_any (s : ByteArray) (c : Int) (w : World) (hs : s.size ≤ maxLen) :
    Calls Try.prog 7 #[.string s, .int .u8 c] w fun e w' => HOut s c w e w' := by
  unfold maxLen at hs
  go_enter Try.func7, Try.ntmps7
  go_wp2
  go_loop [5] (fun i => ∃ k : Nat, k ≤ s.size ∧ i = .int .i64 k ∧ Hid (∀ (j : Nat) (h : j < s.size), j < k → (s[j].toNat : Int) ≠ c)) (fun i => s.size - (intOf i).toNat)
  case atStart => exact ⟨0, Nat.zero_le _, rfl, fun j h hj => absurd hj (by omega)⟩
  case round =>
    obtain ⟨k, hk, rfl, HN⟩ := hrel
    by_cases hlt : k < s.size
    · by_cases he : (s[k].toNat : Int) = c
      · have heb : ((s[k].toNat : Int) == c) = true := beq_iff_eq.2 he
        clear he
        go_wp2
        go_ret
        exact ⟨true, rfl, rfl, fun h => by cases h⟩
      · have heb : ((s[k].toNat : Int) == c) = false := beq_eq_false_iff_ne.2 he
        have HE : Hid ((s[k].toNat : Int) ≠ c) := he
        clear he
        go_wp2
        go_round
        case rel => exact ⟨k + 1, by omega, by go_num, fun j h hj => by
          by_cases e : j = k
          · subst e; exact HE.out
          · exact HN.out j h (by omega)⟩
        case measure => simp [intOf]; omega
    · go_wp2
      go_ret
      exact ⟨false, rfl, rfl, fun _ i h => HN.out i h (by omega)⟩

/-- The bounds that zzBytes gives. -/
def Small (ts : List K3) (k : Nat) : Prop := ∀ (j : Nat) (t : K3), j < k → ts[j]? = some t → t.ty.size ≤ 1048576 ∧ t.rel.size ≤ 1048576
def ZS (ts : List K3) (w : World) (e : Ending) (w' : World) : Prop := ∃ b, e = .returned (.bool b) ∧ w = w' ∧ (b = true → Small ts ts.length)
theorem zs_false {ts : List K3} {w : World} : ZS ts w (.returned (.bool false)) w := ⟨false, rfl, rfl, fun h => by cases h⟩

set_option maxHeartbeats 2000000 in
set_option maxRecDepth 100000 in
theorem zzs10 (s : ByteArray) (a : Option Addr) (len cap : Nat) (ts : List K3) (w : World) (hs : s.size ≤ maxLen) (h : STs w a len cap ts) :
    Calls Try.prog 10 #[.string s, .slice a len cap] w fun e w' => ZS ts w e w' := by
  obtain ⟨hl, hlc, hcm, hst⟩ := h
  unfold maxLen at hs hcm
  have HS : Hid ((len = 0 ∧ (a = none → cap = 0)) ∨ ∃ b off, a = some ⟨b, off, none⟩ ∧ ∀ (i : Nat) (t : K3), ts[i]? = some t →
    w.cell? ⟨b, off + i * 3, none⟩ = some (.string t.ty) ∧ w.cell? ⟨b, off + i * 3 + 1, none⟩ = some (.bool t.wild) ∧ w.cell? ⟨b, off + i * 3 + 2, none⟩ = some (.string t.rel) ∧ t.ty.size ≤ maxLen ∧ t.rel.size ≤ maxLen) := hst
  have HL : Hid (ts.length = len) := hl
  clear hst hl
  by_cases c1 : (1048576 : Int) < (s.size : Int)
  · go_enter Try.func10, Try.ntmps10
    go_wp2
    go_ret
    exact zs_false
  by_cases c2 : (1048576 : Int) < (len : Int)
  · go_enter Try.func10, Try.ntmps10
    go_wp2
    go_ret
    exact zs_false
  by_cases c3 : (1048576 : Int) < (s.size : Int) + (len : Int)
  · go_enter Try.func10, Try.ntmps10
    go_wp2
    go_ret
    exact zs_false
  go_enter Try.func10, Try.ntmps10
  go_wp2
  go_loop [5, 6] (fun z i => ∃ (n : Int) (k : Nat), z = .int .i64 n ∧ 0 ≤ n ∧ n ≤ 1048576 ∧ k ≤ len ∧ i = .int .i64 k ∧ Small ts k) (fun _ i => len - (intOf i).toNat)
  case atStart => exact ⟨_, 0, rfl, by omega, by omega, by omega, rfl, fun j t hj => absurd hj (by omega)⟩
  case round =>
    obtain ⟨n, k, rfl, hn0, hn1, hk, rfl, hsm⟩ := hrel
    have HSM : Hid (Small ts k) := hsm
    clear hsm
    by_cases hlt : k < len
    · obtain ⟨t, ht⟩ : ∃ t, ts[k]? = some t := ⟨_, List.getElem?_eq_getElem (by rw [HL.out]; exact hlt)⟩
      rcases HS.out with ⟨h0, _⟩ | ⟨b, off, rfl, hcs⟩
      · omega
      obtain ⟨x1, x2, x3, m1, m2⟩ := hcs k t ht
      unfold maxLen at m1 m2
      have HT : Hid (ts[k]? = some t) := ht
      clear hcs ht
      go_wp2
      all_goals first
        | (go_ret
           exact zs_false)
        | (go_round
           case rel => exact ⟨_, k + 1, rfl, by omega, by omega, by omega, by go_num, fun j u hj hu => by
             by_cases e : j = k
             · subst e
               have h1 := HT.out
               rw [hu] at h1
               obtain rfl : u = t := Option.some.inj h1
               exact ⟨by omega, by omega⟩
             · exact HSM.out j u (by omega) hu⟩
           case measure => simp [intOf]; omega)
    · obtain rfl : k = len := by omega
      go_wp2
      all_goals first
        | (go_ret
           exact zs_false)
        | (go_ret
           exact ⟨true, rfl, rfl, fun _ => by rw [HL.out]; exact HSM.out⟩)

def Clean1 (t : K3) : Prop := NoB t.ty 58 ∧ NoB t.ty 35 ∧ NoB t.ty 32 ∧ (t.wild = false → NoB t.rel 32)
def Clean (ts : List K3) (k : Nat) : Prop := ∀ (j : Nat) (t : K3), j < k → ts[j]? = some t → Clean1 t
theorem clean_next {ts : List K3} {k : Nat} {t : K3} (h : Clean ts k) (ht : ts[k]? = some t) (hc : Clean1 t) : Clean ts (k + 1) := fun j u hj hu => by
  by_cases e : j = k
  · subst e
    rw [ht] at hu
    obtain rfl : t = u := Option.some.inj hu
    exact hc
  · exact h j u (by omega) hu
def PrOut (ts : List K3) (w : World) (e : Ending) (w' : World) : Prop := ∃ b, e = .returned (.bool b) ∧ w = w' ∧ (b = true → 0 < ts.length ∧ Clean ts ts.length)
theorem pr_false {ts : List K3} {w : World} : PrOut ts w (.returned (.bool false)) w := ⟨false, rfl, rfl, fun h => by cases h⟩

set_option maxHeartbeats 2000000 in
set_option maxRecDepth 100000 in
theorem printable_any (a : Option Addr) (len cap : Nat) (ts : List K3) (w : World) (h : STs w a len cap ts) :
    Calls Try.prog 12 #[.slice a len cap] w fun e w' => PrOut ts w e w' := by
  obtain ⟨hl, hlc, hcm, hst⟩ := h
  unfold maxLen at hcm
  have HL : Hid (ts.length = len) := hl
  rcases hst with ⟨h0, _⟩ | ⟨b, off, rfl, hcs⟩
  · subst h0
    go_enter Try.func12, Try.ntmps12
    go_wp2
    go_ret
    exact pr_false
  by_cases h0 : len = 0
  · subst h0
    go_enter Try.func12, Try.ntmps12
    go_wp2
    go_ret
    exact pr_false
  have h0b : ((len : Int) == 0) = false := beq_eq_false_iff_ne.2 (by omega)
  have HS : Hid (∀ (i : Nat) (t : K3), ts[i]? = some t →
    w.cell? ⟨b, off + i * 3, none⟩ = some (.string t.ty) ∧ w.cell? ⟨b, off + i * 3 + 1, none⟩ = some (.bool t.wild) ∧ w.cell? ⟨b, off + i * 3 + 2, none⟩ = some (.string t.rel) ∧ t.ty.size ≤ maxLen ∧ t.rel.size ≤ maxLen) := hcs
  clear hl hcs h0
  go_enter Try.func12, Try.ntmps12
  go_wp2
  go_loop [3] (fun i => ∃ k : Nat, k ≤ len ∧ i = .int .i64 k ∧ Clean ts k) (fun i => len - (intOf i).toNat)
  case atStart => exact ⟨0, Nat.zero_le _, rfl, fun j t hj => absurd hj (by omega)⟩
  case round =>
    obtain ⟨k, hk, rfl, hcl⟩ := hrel
    have HC : Hid (Clean ts k) := hcl
    clear hcl
    by_cases hlt : k < len
    · obtain ⟨t, ht⟩ : ∃ t, ts[k]? = some t := ⟨_, List.getElem?_eq_getElem (by rw [HL.out]; exact hlt)⟩
      obtain ⟨x1, x2, x3, m1, m2⟩ := HS.out k t ht
      have HT : Hid (ts[k]? = some t) := ht
      clear ht
      go_wp2_with fail
      refine (hasbyte_any t.ty 58 _ m1).mono ?_
      rintro e w1 ⟨b1, rfl, rfl, hb1⟩
      cases b1
      · go_wp2_with fail
        refine (hasbyte_any t.ty 35 _ m1).mono ?_
        rintro e w1 ⟨b2, rfl, rfl, hb2⟩
        cases b2
        · go_wp2_with fail
          refine (hasbyte_any t.ty 32 _ m1).mono ?_
          rintro e w1 ⟨b3, rfl, rfl, hb3⟩
          cases b3
          · have H1 : Hid (NoB t.ty 58 ∧ NoB t.ty 35 ∧ NoB t.ty 32) := ⟨by first | exact hb1 rfl | exact hb1 trivial, by first | exact hb2 rfl | exact hb2 trivial, by first | exact hb3 rfl | exact hb3 trivial⟩
            clear hb1 hb2 hb3
            cases hw : t.wild
            · go_wp2_with fail
              refine (hasbyte_any t.rel 32 _ m2).mono ?_
              rintro e w1 ⟨b4, rfl, rfl, hb4⟩
              cases b4
              · have H4 : Hid (NoB t.rel 32) := hb4 rfl
                clear hb4
                go_wp2
                go_round
                case rel => exact ⟨k + 1, by omega, by go_num, clean_next HC.out HT.out ⟨H1.out.1, H1.out.2.1, H1.out.2.2, fun _ => H4.out⟩⟩
                case measure => simp [intOf]; omega
              · clear hb4
                go_wp2
                go_ret
                exact pr_false
            · go_wp2
              go_round
              case rel => exact ⟨k + 1, by omega, by go_num, clean_next HC.out HT.out ⟨H1.out.1, H1.out.2.1, H1.out.2.2, fun h => by rw [hw] at h; cases h⟩⟩
              case measure => simp [intOf]; omega
          · clear hb1 hb2 hb3
            go_wp2
            go_ret
            exact pr_false
        · clear hb1 hb2
          go_wp2
          go_ret
          exact pr_false
      · clear hb1
        go_wp2
        go_ret
        exact pr_false
    · obtain rfl : k = len := by omega
      go_wp2
      go_ret
      exact ⟨true, rfl, rfl, fun _ => ⟨by rw [HL.out]; simp at h0b; omega, by rw [HL.out]; exact HC.out⟩⟩
end Go.Proofs.Qxb6604017a
