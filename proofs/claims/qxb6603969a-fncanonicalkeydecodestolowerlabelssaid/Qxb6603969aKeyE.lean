import Derived.Test.Qxb6603969aKeyC
namespace Go.Proofs.Qxb6603969a
open Go.RowKit
theorem Try.info9 : (Try.prog.info? 9).map (fun i => (i.zero, i.size, i.bytes)) = some (some (.string ⟨#[]⟩), 1, 16) := by kernel_rfl

/-- What wireLabels hands back: the labels as strings. -/
def WlOut (ls : List (List Int)) (w : World) (e : Ending) (w' : World) : Prop :=
  ∃ (v : Value) (ts : List ByteArray), e = .returned v ∧ ts.map bytesOf = ls ∧ w'.ownsRow w.heap.size 9 1 v ls.length (ts.map Value.string) ∧ Below w.heap.size w w'
def R20 (ls : List (List Int)) (w : World) (v off : Value) (wr : World) : Prop :=
  ∃ (done rest : List (List Int)) (ts : List ByteArray), ls = done ++ rest ∧ off = .int .i64 ((encL done).length : Int) ∧ ts.map bytesOf = done ∧ wr.ownsRow w.heap.size 9 1 v done.length (ts.map Value.string) ∧ Below w.heap.size w wr
theorem r20_next {done rest : List (List Int)} {l : List Int} {ts : List ByteArray} {t s : ByteArray} {k : Nat} {hk : k < s.size} {w wr w' : World} {o : Obj} {v v' : Value} (hN : (encL (done ++ [l])).length = k + 1 + l.length) (hB : s[k].toNat = l.length) (hts : ts.map bytesOf = done) (ht : bytesOf t = l)
    (hb : Below w.heap.size w wr) (hv : wr.ownsRow w.heap.size 9 1 v done.length (ts.map Value.string)) (hown : w'.ownsRow w.heap.size 9 1 v' (done.length + 1) (ts.map Value.string ++ [.string t])) (hg : (wr.alloc o).grownBy w' v.ownBlock) :
    R20 (done ++ l :: rest) w v' (.int .i64 ((k : Int) + 1 + (s[k].toNat : Int))) w' := by
  have hs1 := hb.size
  refine ⟨done ++ [l], rest, ts ++ [t], by simp, ?_, by simp [hts, ht], by simpa using hown, ?_⟩
  · rw [hN, hB]; go_num
  · exact (hb.alloc hs1 o).grown hg (by rw [World.size_alloc]; omega) (fun k hk => (hv.lt k hk).1)

set_option maxHeartbeats 2000000 in
set_option maxRecDepth 100000 in
theorem wirelabels_any (s : ByteArray) (ls : List (List Int)) (w : World) (hs : s.size ≤ 255) (hw : Wire s ls) :
    Calls Try.prog 20 #[.string s] w fun e w' => WlOut ls w e w' := by
  have hfew := labels_few hw
  obtain ⟨i0, hi, hz0, hz1, hz2⟩ := info_parts Try.info9
  go_enter Try.func20, Try.ntmps20
  go_wp2
  go_loopw [3, 4] (fun v off wr => R20 ls w v off wr) (fun _ off _ => s.size - (intOf off).toNat)
  case atStart => exact ⟨[], ls, [], rfl, rfl, rfl, World.ownsRow_nil _ _ _ _, Below.refl _ _⟩
  case round =>
    obtain ⟨done, rest, ts, rfl, rfl, hts, hown, hb2⟩ := hrel
    have hsz := hb2.size
    have HTS : Hid (ts.map bytesOf = done) := hts
    clear hts
    cases rest with
    | nil =>
      obtain ⟨hk, hb⟩ := end_facts (by simpa using hw)
      have hbb : ((s[(encL done).length].toNat : Int) != 0) = false := by rw [hb]; rfl
      clear hb
      go_wp2
      go_ret
      exact ⟨_, ts, rfl, by simpa using HTS.out, by simpa using hown, hb2⟩
    | cons l rest =>
      obtain ⟨hk, hb, hl0, hfit, hbn, hex, hnext⟩ := label_facts hw
      have hbb : ((s[(encL done).length].toNat : Int) != 0) = true := by rw [bne_iff_ne]; omega
      have hdl : done.length ≤ 255 := by simp at hfew; omega
      generalize hkd : (encL done).length = k at *
      have HN : Hid ((encL (done ++ [l])).length = k + 1 + l.length) := hnext
      have HBN : Hid (s[k].toNat = l.length) := hbn
      have HX : Hid (bytesOf (s.extract (k + 1) (k + 1 + s[k].toNat)) = l) := hex
      clear hb hbn hex hnext hkd
      go_wp2_with (at_builtin; refine wpList_append_own _ rfl (.tmp 27) (.tmp 33) 36 rfl w.heap.size 9 i0 (.string ⟨#[]⟩) 1 16 Try.underlying36 hi hz0 hz1 hz2 rfl (by decide) u3 done.length _ rfl (hown.alloc _) ⟨wr.heap.size, 0, none⟩ 1 1 [.string (s.extract (k + 1) (k + 1 + s[k].toNat))] rfl rfl (cell_one_new _ _ _) (by intro u hu; simp at hu; subst hu; rfl) (by unfold maxLen; omega) (by omega) (by rw [World.size_alloc]; omega) ?_; intro v' w' hown' hgrow _)
      go_roundw
      case rel => exact r20_next HN.out HBN.out HTS.out HX.out hb2 hown hown' hgrow
      case measure => simp [intOf]; omega
end Go.Proofs.Qxb6603969a
