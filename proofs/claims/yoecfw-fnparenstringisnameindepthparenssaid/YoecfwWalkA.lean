/-
  THE WALK OF 'FnParenStringIsNameInDepthParens' (function 3).
-/
import Derived.Test.YoecfwWalks
import Derived.Deep.QuietTactic
import Derived.BigQuiet
namespace Go.Proofs.Yoecfw.WalkA
open Go.RowKit
open Go.Proofs.Yoecfw.Walks Go.Proofs.Yoecfw.Plain

/-! ### THE WALK -/
theorem cell_keep {w : World} {a : Addr} {v : Value} (o : Obj) (h : w.cell? a = some v) : (w.alloc o).cell? a = some v := by
  by_cases hb : a.block = w.heap.size
  · have e : w.heap[a.block]? = none := by rw [hb]; simp
    rw [World.cell?, e] at h
    cases h
  · rw [World.cell?_alloc_old w o a hb]; exact h

theorem chain_alloc {w : World} {lo : Nat} {s : ByteArray} (o : Obj) {k b : Nat} (h : Chain w lo s k b) : Chain (w.alloc o) lo s k b :=
  Chain.mono (fun _ _ _ h => cell_keep o h) k b h

theorem grown_drewN {W w : World} (h : Grown W w) (n : Nat) : Grown W (w.drewN n) := h

theorem walk_long (a0 : ByteArray) (a1 : Int) (w0 : a0.size ≤ maxLen) (h : 1048576 < a0.size) (w : World) :
    Calls Ecfg.prog 3 #[.string a0, .int .i64 a1] w fun e w' => e = .returned (.bool true) ∧ Grown w w' := by
  go_enter Ecfg.func3, Ecfg.ntmps3
  go_wp2_with (go_at_call 5; refine (zz5_no a0 a1 _ w0 h).mono ?_; rintro e w' ⟨rfl, rfl⟩)
  go_ret
  exact ⟨rfl, Grown.refl _⟩

theorem walk_wide (a0 : ByteArray) (a1 : Int) (h : a0.size ≤ 1048576) (h2 : 65536 < a0.size ∨ a0.size ≤ 65536 ∧ (a1 < 1 ∨ 1024 < a1)) (w : World) :
    Calls Ecfg.prog 3 #[.string a0, .int .i64 a1] w fun e w' => e = .returned (.bool true) ∧ Grown w w' := by
  rcases h2 with h2 | ⟨h2, h3 | h3⟩
  all_goals
    go_enter Ecfg.func3, Ecfg.ntmps3
    go_wp2_with (go_at_call 5; refine (zz5 a0 a1 _ h).mono ?_; rintro e w' ⟨rfl, rfl⟩)
    go_ret
    exact ⟨rfl, Grown.refl _⟩

theorem paren_str' (s : ByteArray) (hs : s.size ≤ 65536) (lo n : Nat) (h1 : 1 ≤ n) (h2 : n ≤ 1024) (b : Nat) (w : World) (hc : Chain w lo s (n - 1) b) :
    Calls Ecfg.prog 6 #[.pointer (some ⟨b, 0, none⟩)] w fun e w' => e = .returned (.string (par n s)) ∧ w' = w := by
  obtain ⟨m, rfl⟩ : ∃ m, n = m + 1 := ⟨n - 1, by omega⟩
  exact paren_str s hs lo m (by omega) b w hc

set_option maxHeartbeats 1000000 in
theorem walk_main (a0 : ByteArray) (D : Nat) (h : a0.size ≤ 65536) (h1 : 1 ≤ D) (h2 : D ≤ 1024) (w : World) :
    Calls Ecfg.prog 3 #[.string a0, .int .i64 D] w fun e w' => e = .returned (.bool true) ∧ Grown w w' := by
  have hb1 : decide (65536 < (a0.size : Int)) = false := by simp; omega
  have hb2 : decide ((D : Int) < 1) = false := by simp; omega
  have hb3 : decide (1024 < (D : Int)) = false := by simp; omega
  go_enter Ecfg.func3, Ecfg.ntmps3
  go_wp2_with (go_at_call 5; refine (zz5 a0 _ _ (by omega)).mono ?_; rintro e w' ⟨rfl, hw'⟩; subst w')
  go_loopw [5, 6] (fun cur i wr => ∃ k b : Nat, 1 ≤ k ∧ k ≤ D ∧ i = .int .i64 k ∧ cur = .pointer (some ⟨b, 0, none⟩) ∧ Chain wr 0 a0 (k - 1) b ∧ Grown w wr) (fun _ i _ => D - (intOf i).toNat)
  case atStart =>
    refine ⟨1, _, Nat.le_refl _, h1, rfl, rfl, ?_, ?_⟩
    · exact ⟨Nat.zero_le _, w.heap.size, Nat.zero_le _, by simp [go_sem], by simp [go_sem]⟩
    · exact Grown.alloc (Grown.alloc (Grown.refl _) _ _) _ _
  case round =>
    obtain ⟨k, b, hk1, hk2, rfl, rfl, hch, hg⟩ := hrel
    have HC : Hid (Chain wr 0 a0 (k - 1) b) := hch
    have HG : Hid (Grown w wr) := hg
    clear hch hg
    by_cases hlt : k < D
    · go_wp2
      go_roundw
      case rel =>
        refine ⟨k + 1, wr.heap.size, by omega, by omega, by go_num, rfl, ?_, HG.out.alloc _ _⟩
        have hc := chain_alloc (.cells #[.iface 23 (.pointer (some ⟨b, 0, none⟩)), .int .i64 0, .int .i64 0] 31) HC.out
        rw [show k + 1 - 1 = (k - 1) + 1 by omega]
        exact ⟨Nat.zero_le _, b, by simp [go_sem], hc⟩
      case measure => simp [intOf]; omega
    · have hkD : k = D := by omega
      subst hkD
      have hz := par_size k a0
      go_wp2_with fail
      refine (paren_str' a0 h 0 k hk1 h2 b wr HC.out).mono ?_
      rintro e w' ⟨rfl, hw'⟩
      subst w'
      go_wp2_with fail
      go_loop [8] (fun i => ∃ m : Nat, m ≤ k ∧ i = .int .i64 m) (fun i => k - (intOf i).toNat)
      case atStart => exact ⟨0, Nat.zero_le _, rfl⟩
      case round =>
        obtain ⟨m, hm, rfl⟩ := hrel
        by_cases hmk : m < k
        · go_wp2
          · rename_i hx
            exact (right_no (by omega) hx).elim
          · go_round
            case rel => exact ⟨m + 1, by omega, by go_num⟩
            case measure => simp [intOf]; omega
          · rename_i hx
            exact (left_no hmk hx).elim
        · go_wp2
          go_loopw [9] (fun i wx => ∃ j : Nat, j ≤ a0.size ∧ i = .int .i64 j ∧ Grown w wx) (fun i _ => a0.size - (intOf i).toNat)
          case atStart => exact ⟨0, Nat.zero_le _, rfl, HG.out⟩
          case round =>
            obtain ⟨j, hj, rfl, hg⟩ := hrel
            have HG2 : Hid (Grown w wr) := hg
            clear hg
            by_cases hjs : j < a0.size
            · have hj1 : (j : Int) < (a0.size : Int) := by omega
              have hj2 : (k : Int) + (j : Int) < (a0.size : Int) + 2 * (k : Int) := by omega
              have hj0 : (0 : Int) ≤ (k : Int) + (j : Int) := by omega
              go_wp2
              go_quiet (fail)
              go_wp2
              · rename_i hx
                exact (mid_no hjs hx).elim
              · go_roundw
                case rel => exact ⟨j + 1, by omega, by go_num, grown_drewN HG2.out _⟩
                case measure => simp [intOf]; omega
            · go_wp2
              go_ret
              exact ⟨rfl, HG2.out⟩

theorem walk (a0 : ByteArray) (a1 : Int) (w0 : a0.size ≤ maxLen) (w1 : (Lit.int .i64 a1).wf = true) (w : World) :
    Calls Ecfg.prog 3 #[.string a0, .int .i64 a1] w fun e w' => e = .returned (.bool true) ∧ Grown w w' := by
  by_cases hl : 1048576 < a0.size
  · exact walk_long a0 a1 w0 hl w
  by_cases hw : 65536 < a0.size ∨ a0.size ≤ 65536 ∧ (a1 < 1 ∨ 1024 < a1)
  · exact walk_wide a0 a1 (by omega) hw w
  obtain ⟨D, rfl⟩ := Int.eq_ofNat_of_zero_le (show 0 ≤ a1 by omega)
  exact walk_main a0 D (by omega) (by omega) (by omega) w
end Go.Proofs.Yoecfw.WalkA
