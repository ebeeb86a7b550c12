import Derived.Test.Qxb6604039aEnter
import Derived.Deep.DeepCutAuto
import Derived.Deep.OwnRows
namespace Go.Proofs.Qxb6604039a
open Go.RowKit
theorem Try.info4 : (Try.prog.info? 4).map (fun i => (i.zero, i.size, i.bytes)) = some (some (.bool false), 1, 1) := by kernel_rfl

theorem row_make (w : World) (z : Value) (n : Nat) (e : TypeId) : Row (w.alloc (.cells (madeCells #[z] n) e)) w.heap.size e n (fun _ => z) := by
  refine ⟨madeCells #[z] n, heap_alloc_new w _, size_madeCells _ _, fun i hi => ?_⟩
  rw [Array.getElem?_eq_getElem (by rw [size_madeCells]; exact hi)]
  simp [madeCells, Nat.mod_one]
theorem row_box (w : World) (z : Value) (e : TypeId) : Row (w.alloc (.cells #[z] e)) w.heap.size e 1 (fun _ => z) := by
  refine ⟨#[z], heap_alloc_new w _, rfl, fun i hi => ?_⟩
  rw [show i = 0 by omega]; rfl
theorem row_make' (w : World) (z : Value) (n : Nat) (e : TypeId) (T : Nat) (h : w.heap.size = T) : Row (w.alloc (.cells (madeCells #[z] n) e)) T e n (fun _ => z) := by
  subst h; exact row_make w z n e
theorem row_box' (w : World) (z : Value) (e : TypeId) (T : Nat) (h : w.heap.size = T) : Row (w.alloc (.cells #[z] e)) T e 1 (fun _ => z) := by
  subst h; exact row_box w z e
theorem Row.put {w : World} {B : Nat} {e : TypeId} {z : Value} (h : Row w B e 1 (fun _ => z)) (x : Value) : Row (w.setCell ⟨B, 0, none⟩ x) B e 1 (fun _ => x) :=
  (h.set (i := 0) (by omega) x).congr fun i hi => by rw [show i = 0 by omega]; exact upd_same _ _ _

/-- The graph as components reads it. -/
def NodesAt (w : World) (bG n : Nat) (g : List (List Nat)) : Prop :=
  g.length = n ∧ ∀ v, v < n → ∃ a c, w.cell? ⟨bG, v * 3 + 2, none⟩ = some (.slice a (sc g v).length c) ∧ (sc g v).length ≤ 131072 ∧
    ∀ (j u : Nat), (sc g v)[j]? = some u → u < n ∧ ∃ b, a = some ⟨b, 0, none⟩ ∧ w.cell? ⟨b, j, none⟩ = some (.int .i64 u)

/-- The first loop: order and comp are -1 below k. -/
structure Pre (w : World) (t n k : Nat) : Prop where
  o : Row w t 3 n (fun i => .int .i64 (if i < k then -1 else 0))
  xo : Row w (t + 1) 24 1 (fun _ => .slice (some ⟨t, 0, none⟩) n n)
  l : Row w (t + 2) 3 n (fun _ => .int .i64 0)
  xl : Row w (t + 3) 24 1 (fun _ => .slice (some ⟨t + 2, 0, none⟩) n n)
  c : Row w (t + 4) 3 n (fun i => .int .i64 (if i < k then -1 else 0))
  nn : Row w (t + 5) 4 n (fun _ => .bool false)
  xn : Row w (t + 6) 30 1 (fun _ => .slice (some ⟨t + 5, 0, none⟩) n n)
  sz : w.heap.size = t + 7
theorem upd_if (k : Nat) : ∀ i, upd (fun i => Value.int .i64 (if i < k then -1 else 0)) k (.int .i64 (-1)) i = Value.int .i64 (if i < k + 1 then -1 else 0) := by
  intro i
  unfold upd
  by_cases e : i = k
  · subst e; simp
  · simp only [if_neg e]
    by_cases h : i < k
    · rw [if_pos h, if_pos (by omega)]
    · rw [if_neg h, if_neg (by omega)]
theorem Pre.next {w : World} {t n k : Nat} (h : Pre w t n k) (hk : k < n) : Pre ((w.setCell ⟨t, k, none⟩ (.int .i64 (-1))).setCell ⟨t + 4, k, none⟩ (.int .i64 (-1))) t n (k + 1) :=
  ⟨((h.o.set hk _).other (by simp) _).congr fun i _ => upd_if k i, (h.xo.other (by simp) _).other (by simp) _, (h.l.other (by simp) _).other (by simp) _, (h.xl.other (by simp) _).other (by simp) _, ((h.c.other (by simp) _).set hk _).congr fun i _ => upd_if k i, (h.nn.other (by simp) _).other (by simp) _, (h.xn.other (by simp) _).other (by simp) _, by simp [World.size_setCell, h.sz]⟩
theorem pre_start (w : World) (n : Nat) (W : World) (hW : W = ((((((w.alloc (Obj.cells (madeCells #[Value.int .i64 0] n) 3)).alloc
      (Obj.cells #[Value.slice (some ⟨w.heap.size, 0, none⟩) n n] 24)).alloc (Obj.cells (madeCells #[Value.int .i64 0] n) 3)).alloc
      (Obj.cells #[Value.slice (some ⟨w.heap.size + 2, 0, none⟩) n n] 24)).alloc (Obj.cells (madeCells #[Value.int .i64 0] n) 3)).alloc
      (Obj.cells (madeCells #[Value.bool false] n) 4)).alloc (Obj.cells #[Value.slice (some ⟨w.heap.size + 5, 0, none⟩) n n] 30)) : Pre W w.heap.size n 0 ∧ Below w.heap.size w W := by
  subst hW
  refine ⟨⟨?_, by (repeat (first | (refine row_make' _ _ _ _ _ ?_; (simp; done)) | (refine row_box' _ _ _ _ ?_; (simp; done)) | refine Row.alloc ?_ _)), by (repeat (first | (refine row_make' _ _ _ _ _ ?_; (simp; done)) | (refine row_box' _ _ _ _ ?_; (simp; done)) | refine Row.alloc ?_ _)), by (repeat (first | (refine row_make' _ _ _ _ _ ?_; (simp; done)) | (refine row_box' _ _ _ _ ?_; (simp; done)) | refine Row.alloc ?_ _)), ?_, by (repeat (first | (refine row_make' _ _ _ _ _ ?_; (simp; done)) | (refine row_box' _ _ _ _ ?_; (simp; done)) | refine Row.alloc ?_ _)), by (repeat (first | (refine row_make' _ _ _ _ _ ?_; (simp; done)) | (refine row_box' _ _ _ _ ?_; (simp; done)) | refine Row.alloc ?_ _)), by simp [World.size_alloc]⟩, ?_⟩
  · refine Row.congr (f := fun _ => Value.int .i64 0) ?_ (by simp)
    (repeat (first | (refine row_make' _ _ _ _ _ ?_; (simp; done)) | (refine row_box' _ _ _ _ ?_; (simp; done)) | refine Row.alloc ?_ _))
  · refine Row.congr (f := fun _ => Value.int .i64 0) ?_ (by simp)
    (repeat (first | (refine row_make' _ _ _ _ _ ?_; (simp; done)) | (refine row_box' _ _ _ _ ?_; (simp; done)) | refine Row.alloc ?_ _))
  · exact (((((((Below.refl _ _).alloc (Nat.le_refl _) _).alloc (by simp) _).alloc (by simp; omega) _).alloc (by simp; omega) _).alloc (by simp; omega) _).alloc (by simp; omega) _).alloc (by simp; omega) _

theorem mem_start {w wr W1 : World} {n : Nat} (h : Pre wr w.heap.size n n) (hb : Below w.heap.size w wr) (hW : W1 = ((wr.alloc (.cells #[.slice none 0 0] 73)).alloc (.cells #[.slice none 0 0] 24)).alloc (.cells #[.int .i64 0] 3)) : Mem W1 w.heap.size n (TS.init n fun _ => 0) ∧ Below w.heap.size w W1 := by
  subst hW
  have hsz := h.sz
  refine ⟨⟨(((h.o.alloc _).alloc _).alloc _).congr (fun i hi => by simp [TS.init, hi]), ((h.xo.alloc _).alloc _).alloc _, ((h.l.alloc _).alloc _).alloc _, ((h.xl.alloc _).alloc _).alloc _, (((h.c.alloc _).alloc _).alloc _).congr (fun i hi => by simp [TS.init, hi]), ((h.nn.alloc _).alloc _).alloc _, ((h.xn.alloc _).alloc _).alloc _, ⟨.slice none 0 0, ?_, World.ownsRow_nil _ _ _ _⟩, ⟨.slice none 0 0, ?_, World.ownsRow_nil _ _ _ _⟩, ?_⟩, ((hb.alloc hb.size _).alloc (by simp; omega) _).alloc (by simp; omega) _⟩
  · refine Row.alloc (Row.alloc (row_box' _ _ _ _ hsz) _) _
  · exact Row.alloc (row_box' _ _ _ _ (by simp [hsz])) _
  · exact row_box' _ _ _ _ (by simp [hsz])

end Go.Proofs.Qxb6604039a
