/-
  THE MEMORY OF 'FnParenSpanTextIsSliceOfWhole': the row 'levels' and the nodes behind it, as the first loop lays them: what holds when the levels from k on stand. No walk here.
-/
import Derived.Test.YoecfwWalks
import Derived.Deep.OwnRows
namespace Go.Proofs.Yoecfw.Levels
open Go.RowKit Go.Deep
open Go.Proofs.Yoecfw.Walks Go.Proofs.Yoecfw.Plain

theorem cell_keep {w : World} {a : Addr} {v : Value} (o : Obj) (h : w.cell? a = some v) : (w.alloc o).cell? a = some v := by
  by_cases hb : a.block = w.heap.size
  · have e : w.heap[a.block]? = none := by rw [hb]; simp
    rw [World.cell?, e] at h
    cases h
  · rw [World.cell?_alloc_old w o a hb]; exact h

/-- level j: its node, the node's two positions, the chain behind it -/
def Lev (w : World) (sb : Nat) (s : ByteArray) (B D : Nat) (f : Nat → Value) (j : Nat) : Prop :=
  ∃ b : Nat, ∃ p q : Int, f j = .pointer (some ⟨b, 0, none⟩) ∧ sb < b ∧ w.cell? ⟨b, 1, none⟩ = some (.int .i64 p) ∧ w.cell? ⟨b, 2, none⟩ = some (.int .i64 q) ∧
    p = (B : Int) + j ∧ q = (B : Int) + (2 * D + s.size) - 1 - j ∧ Chain w (sb + 1) s (D - 1 - j) b

/-- the row stands at the first new block; the levels from k on are laid -/
def Inv (W w : World) (s : ByteArray) (B D k : Nat) : Prop :=
  ∃ f : Nat → Value, w.rowIs W.heap.size 23 D f ∧ (∀ j, k ≤ j → j < D → Lev w W.heap.size s B D f j) ∧ Grown W w

theorem Lev.mono {w w' : World} {sb : Nat} {s : ByteArray} {B D : Nat} {f g : Nat → Value} {j : Nat}
    (h : ∀ a v, sb < a.block → w.cell? a = some v → w'.cell? a = some v) (hf : f j = g j) (hl : Lev w sb s B D f j) : Lev w' sb s B D g j := by
  obtain ⟨b, p, q, h0, hb, h1, h2, hp, hq, hc⟩ := hl
  exact ⟨b, p, q, by rw [← hf]; exact h0, hb, h ⟨b, 1, none⟩ _ hb h1, h ⟨b, 2, none⟩ _ hb h2, hp, hq, Chain.mono (fun b v hb hv => h ⟨b, 0, none⟩ v (by show sb < b; omega) hv) _ _ hc⟩

theorem inv_start (W : World) (s : ByteArray) (B D : Nat) : Inv W (W.alloc (.cells (madeCells #[.pointer none] D) 23)) s B D D :=
  ⟨_, World.rowIs_made W (.pointer none) D 23, fun j h1 h2 => by omega, Grown.alloc (Grown.refl _) _ _⟩

/-- a store into the row turns no other block -/
theorem set_keep {w : World} {sb i : Nat} {v x : Value} {a : Addr} (ha : sb < a.block) (h : w.cell? a = some x) : (w.setCell ⟨sb, i, none⟩ v).cell? a = some x := by
  rw [World.cell?_setCell_other (a := ⟨sb, i, none⟩) (h := fun e => by rw [← e] at ha; exact Nat.lt_irrefl _ ha)]
  exact h

/-- the innermost level -/
theorem inv_first {W w : World} {s : ByteArray} {B D m : Nat} {p q x : Int} (hi : Inv W w s B D D) (hm : m + 1 = D) (hp : p = (B : Int) + m) (hq : q = (B : Int) + (2 * D + s.size) - 1 - m) :
    Inv W (((w.alloc (.cells #[.string s, .int .i64 x] 27)).alloc (.cells #[.iface 24 (.pointer (some ⟨w.heap.size, 0, none⟩)), .int .i64 p, .int .i64 q] 31)).setCell ⟨W.heap.size, m, none⟩ (.pointer (some ⟨w.heap.size + 1, 0, none⟩))) s B D m := by
  obtain ⟨f, hr, _, hg⟩ := hi
  have hlt := hr.lt
  refine ⟨_, ((hr.alloc _).alloc _).set m _, fun j h1 h2 => ?_, ((hg.alloc _ _).alloc _ _).setCell (Nat.le_refl _) _⟩
  have e : j = m := by omega
  subst e
  refine ⟨w.heap.size + 1, p, q, by simp, by omega, ?_, ?_, hp, hq, ?_⟩
  · exact set_keep (show W.heap.size < w.heap.size + 1 by omega) (by simp [go_sem])
  · exact set_keep (show W.heap.size < w.heap.size + 1 by omega) (by simp [go_sem])
  · rw [show D - 1 - j = 0 by omega]
    exact ⟨by omega, w.heap.size, by omega, set_keep (show W.heap.size < w.heap.size + 1 by omega) (by simp [go_sem]), set_keep (show W.heap.size < w.heap.size by omega) (by simp [go_sem])⟩

/-- a further level around the one that stands -/
theorem inv_next {W w : World} {s : ByteArray} {B D m c : Nat} {f : Nat → Value} {p q : Int} (hr : w.rowIs W.heap.size 23 D f) (hl : ∀ j, m + 1 ≤ j → j < D → Lev w W.heap.size s B D f j) (hg : Grown W w)
    (hm : m + 1 < D) (hc : f (m + 1) = .pointer (some ⟨c, 0, none⟩)) (hp : p = (B : Int) + m) (hq : q = (B : Int) + (2 * D + s.size) - 1 - m) :
    Inv W ((w.alloc (.cells #[.iface 23 (.pointer (some ⟨c, 0, none⟩)), .int .i64 p, .int .i64 q] 31)).setCell ⟨W.heap.size, m, none⟩ (.pointer (some ⟨w.heap.size, 0, none⟩))) s B D m := by
  have hlt := hr.lt
  have keep : ∀ a v, W.heap.size < a.block → w.cell? a = some v → ((w.alloc (.cells #[.iface 23 (.pointer (some ⟨c, 0, none⟩)), .int .i64 p, .int .i64 q] 31)).setCell ⟨W.heap.size, m, none⟩ (.pointer (some ⟨w.heap.size, 0, none⟩))).cell? a = some v :=
    fun a v ha h => set_keep ha (cell_keep _ h)
  refine ⟨_, (hr.alloc _).set m _, fun j h1 h2 => ?_, (hg.alloc _ _).setCell (Nat.le_refl _) _⟩
  by_cases e : j = m
  · subst e
    refine ⟨w.heap.size, p, q, by simp, hlt, ?_, ?_, hp, hq, ?_⟩
    · exact set_keep (show W.heap.size < w.heap.size from hlt) (by simp [go_sem])
    · exact set_keep (show W.heap.size < w.heap.size from hlt) (by simp [go_sem])
    · obtain ⟨b, _, _, hb, _, _, _, _, _, hch⟩ := hl (j + 1) (Nat.le_refl _) hm
      rw [hc] at hb
      have e2 : c = b := by simpa using hb
      subst e2
      rw [show D - 1 - j = (D - 1 - (j + 1)) + 1 by omega]
      exact ⟨by omega, c, set_keep (show W.heap.size < w.heap.size from hlt) (by simp [go_sem]), Chain.mono (fun b v hb hv => keep ⟨b, 0, none⟩ v (by show W.heap.size < b; omega) hv) _ _ hch⟩
  · exact (hl j (by omega) h2).mono keep (by simp [e])

/-! the two steps once more, as the walk writes the world: the store ahead of the new blocks -/
theorem inv_first' {W w : World} {s : ByteArray} {B D m : Nat} {p q x : Int} (hi : Inv W w s B D D) (hm : m + 1 = D) (hp : p = (B : Int) + m) (hq : q = (B : Int) + (2 * D + s.size) - 1 - m) :
    Inv W (((w.setCell ⟨W.heap.size, m, none⟩ (.pointer (some ⟨w.heap.size + 1, 0, none⟩))).alloc (.cells #[.string s, .int .i64 x] 27)).alloc (.cells #[.iface 24 (.pointer (some ⟨w.heap.size, 0, none⟩)), .int .i64 p, .int .i64 q] 31)) s B D m := by
  obtain ⟨f, hr, hl, hg⟩ := hi
  have hlt := hr.lt
  have h := inv_first (x := x) ⟨f, hr, hl, hg⟩ hm hp hq
  rw [World.setCell_alloc_past _ _ _ _ (by rw [nblk_alloc]; omega), World.setCell_alloc_past _ _ _ _ hlt] at h
  exact h

theorem inv_next' {W w : World} {s : ByteArray} {B D m c : Nat} {f : Nat → Value} {p q : Int} (hr : w.rowIs W.heap.size 23 D f) (hl : ∀ j, m + 1 ≤ j → j < D → Lev w W.heap.size s B D f j) (hg : Grown W w)
    (hm : m + 1 < D) (hc : f (m + 1) = .pointer (some ⟨c, 0, none⟩)) (hp : p = (B : Int) + m) (hq : q = (B : Int) + (2 * D + s.size) - 1 - m) :
    Inv W ((w.setCell ⟨W.heap.size, m, none⟩ (.pointer (some ⟨w.heap.size, 0, none⟩))).alloc (.cells #[.iface 23 (.pointer (some ⟨c, 0, none⟩)), .int .i64 p, .int .i64 q] 31)) s B D m := by
  have h := inv_next hr hl hg hm hc hp hq
  rw [World.setCell_alloc_past _ _ _ _ hr.lt] at h
  exact h

end Go.Proofs.Yoecfw.Levels
