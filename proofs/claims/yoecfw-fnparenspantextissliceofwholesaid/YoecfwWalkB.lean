/-
  THE WALK OF 'FnParenSpanTextIsSliceOfWhole' (function 4).
-/
import Derived.Test.YoecfwLevels
import Derived.Deep.QuietTactic
import Derived.BigQuiet
import Derived.Deep.RegionWith
namespace Go.Proofs.Yoecfw.WalkB
open Go.RowKit Go.Deep
open Go.Proofs.Yoecfw.Walks Go.Proofs.Yoecfw.Plain Go.Proofs.Yoecfw.Levels

theorem info23 : (Ecfg.prog.info? 23).map (fun i => (i.zero, i.size, i.bytes)) = some (some (.pointer none), 1, 8) := by kernel_rfl

set_option maxRecDepth 100000 in
theorem walk_long (a0 : ByteArray) (a1 a2 : Int) (w0 : a0.size ≤ maxLen) (h : 1048576 < a0.size) (w : World) :
    Calls Ecfg.prog 4 #[.string a0, .int .i64 a1, .int .i64 a2] w fun e w' => e = .returned (.bool true) ∧ Grown w w' := by
  go_enter Ecfg.func4, Ecfg.ntmps4
  go_wp2_with (go_at_call 7; refine (zz7_no a0 a1 a2 _ w0 h).mono ?_; rintro e w' ⟨rfl, rfl⟩)
  go_ret
  exact ⟨rfl, Grown.refl _⟩

set_option maxRecDepth 100000 in
theorem walk_wide (a0 : ByteArray) (a1 a2 : Int) (h : a0.size ≤ 1048576)
    (h2 : 4096 < a0.size ∨ a0.size ≤ 4096 ∧ (a2 < 1 ∨ 256 < a2 ∨ 1 ≤ a2 ∧ a2 ≤ 256 ∧ (a1 < 0 ∨ 1073741824 < a1))) (w : World) :
    Calls Ecfg.prog 4 #[.string a0, .int .i64 a1, .int .i64 a2] w fun e w' => e = .returned (.bool true) ∧ Grown w w' := by
  rcases h2 with h2 | ⟨h2, h3 | h3 | ⟨h3, h4, h5 | h5⟩⟩
  all_goals
    go_enter Ecfg.func4, Ecfg.ntmps4
    go_wp2_with (go_at_call 7; refine (zz7 a0 a1 a2 _ h).mono ?_; rintro e w' ⟨rfl, rfl⟩)
    go_ret
    exact ⟨rfl, Grown.refl _⟩

/-- level j's own text is the whole text between its two positions -/
theorem span_no {s : ByteArray} {B D j : Nat} {p q : Int} (hj : j < D) (hp1 : p ≤ B + j) (hp2 : B + j ≤ p) (hq1 : q ≤ B + (2 * D + s.size) - 1 - j) (hq2 : B + (2 * D + s.size) - 1 - j ≤ q)
    (hx : (!(par (D - j) s).toList == ((par D s).extract (p.toNat - B) ((q + 1).toNat - B)).toList) = true) : False := by
  have e1 : p.toNat - B = j := by omega
  have e2 : (q + 1).toNat - B = j + (s.size + 2 * (D - j)) := by omega
  have h := par_cut j (D - j) s
  rw [show j + (D - j) = D by omega] at h
  rw [e1, e2, h] at hx
  simp at hx

theorem chain_drewN {w : World} (n : Nat) {lo : Nat} {s : ByteArray} {k b : Nat} (h : Chain w lo s k b) : Chain (w.drewN n) lo s k b :=
  Chain.mono (w := w) (w' := w.drewN n) (fun _ _ _ h => h) k b h

theorem paren_str' (s : ByteArray) (hs : s.size ≤ 65536) (lo n : Nat) (h1 : 1 ≤ n) (h2 : n ≤ 1024) (b : Nat) (w : World) (hc : Chain w lo s (n - 1) b) :
    Calls Ecfg.prog 6 #[.pointer (some ⟨b, 0, none⟩)] w fun e w' => e = .returned (.string (par n s)) ∧ w' = w := by
  obtain ⟨m, rfl⟩ : ∃ m, n = m + 1 := ⟨n - 1, by omega⟩
  exact paren_str s hs lo m (by omega) b w hc

set_option maxHeartbeats 1000000 in
set_option maxRecDepth 100000 in
theorem walk_main (a0 : ByteArray) (B D : Nat) (h : a0.size ≤ 4096) (h1 : 1 ≤ D) (h2 : D ≤ 256) (h3 : B ≤ 1073741824) (w : World) :
    Calls Ecfg.prog 4 #[.string a0, .int .i64 B, .int .i64 D] w fun e w' => e = .returned (.bool true) ∧ Grown w w' := by
  have hb1 : decide (4096 < (a0.size : Int)) = false := by simp; omega
  have hb2 : decide ((D : Int) < 1) = false := by simp; omega
  have hb3 : decide (256 < (D : Int)) = false := by simp; omega
  have hb4 : decide ((B : Int) < 0) = false := decide_eq_false (by omega)
  have hb5 : decide (1073741824 < (B : Int)) = false := by simp; omega
  have hmk := run_make_row' (P := Ecfg.prog) 34 23 (.pointer none) 8 Ecfg.underlying34 info23 rfl .i64 .i64 D (by omega) (by omega)
  go_enter Ecfg.func4, Ecfg.ntmps4
  go_wp2_with (go_at_call 7; refine (zz7 a0 _ _ _ (by omega)).mono ?_; rintro e w' ⟨rfl, hw'⟩; subst w')
  clear hmk
  go_loopw [10] (fun i wr => ∃ k : Nat, k ≤ D ∧ i = .int .i64 ((k : Int) - 1) ∧ Inv w wr a0 B D k) (fun i _ => (intOf i + 1).toNat)
  case atStart => exact ⟨D, Nat.le_refl _, rfl, inv_start w a0 B D⟩
  case round =>
    obtain ⟨k, hk, rfl, hinv⟩ := hrel
    rcases k with _ | m
    · have e : (((0 : Nat) : Int) - 1) = -1 := by omega
      rw [e]
      clear e hk
      obtain ⟨f, hr, hl, hg⟩ := hinv
      obtain ⟨b0, p0, q0, hf0, hb0, hc1, hc2, hp0, hq0, hch⟩ := hl 0 (Nat.le_refl _) h1
      have hc0 := hr.cell (i := 0) h1
      rw [hf0] at hc0
      have hlev : ∀ j, j < D → Lev wr w.heap.size a0 B D f j := fun j => hl j (Nat.zero_le _)
      have HR : Hid (wr.rowIs w.heap.size 23 D f) := hr
      have HL : Hid (∀ j, j < D → Lev wr w.heap.size a0 B D f j) := hlev
      have HG : Hid (Grown w wr) := hg
      have HC : Hid (Chain wr (w.heap.size + 1) a0 (D - 1) b0) := hch
      have hp1 : p0 ≤ B := by omega
      have hp2 : B ≤ p0 := by omega
      have hq1 : q0 ≤ B + (2 * D + a0.size) - 1 := by omega
      have hq2 : B + (2 * D + a0.size) - 1 ≤ q0 := by omega
      have hsz := par_size D a0
      clear hr hl hg hch hp0 hq0 hf0 hb0 hlev
      go_wp2_with fail
      refine (paren_str' a0 (by omega) _ D h1 (by omega) b0 wr HC.out).mono ?_
      rintro e w' ⟨rfl, hw'⟩
      subst w'
      go_wp2_with fail
      have hD0 : (0 : Int) < (D : Int) := by omega
      have ht2 : ((a0.size : Int) + 2 * (D : Int) != q0 + 1 - p0) = false := by rw [bne_eq_false_iff_eq]; omega
      go_quiet (first | (go_at_call 8; exact Calls.quiet_of_same (paren_end q0 b0 _ hc2 (by omega) (by omega))) | (go_at_call 9; exact Calls.quiet_of_same (paren_pos p0 b0 _ hc1)))
      go_wp2_with fail
      clear hc0 hc1 hc2 ht2 hp1 hp2 hq1 hq2 HC
      obtain ⟨wo, rfl⟩ : ∃ wo : World, wo = wr := ⟨_, rfl⟩
      go_loopw [15] (fun i wx => ∃ j n : Nat, j ≤ D ∧ i = .int .i64 j ∧ wx = wo.drewN n) (fun i _ => D - (intOf i).toNat)
      case atStart => exact ⟨0, _, Nat.zero_le _, rfl, rfl⟩
      case round =>
        obtain ⟨j, n, hj, rfl, hwr⟩ := hrel
        have HW : Hid (wr = wo.drewN n) := hwr
        have cells : ∀ a v, wo.cell? a = some v → wr.cell? a = some v := fun a v h => by rw [hwr]; exact h
        clear hwr
        by_cases hlt : j < D
        · obtain ⟨b, p, q, hfj, hb, hd1, hd2, hp, hq, hch⟩ := HL.out j hlt
          have hd0 := HR.out.cell hlt
          rw [hfj] at hd0
          have hc0 := cells _ _ hd0
          have hc1 := cells _ _ hd1
          have hc2 := cells _ _ hd2
          have HC : Hid (Chain wr (w.heap.size + 1) a0 (D - j - 1) b) := by
            show Chain _ _ _ _ _
            rw [show D - j - 1 = D - 1 - j by omega]
            exact Chain.mono (fun b v _ h => cells _ _ h) _ _ hch
          have hp1 : p ≤ B + j := by omega
          have hp2 : B + j ≤ p := by omega
          have hq1 : q ≤ B + (2 * D + a0.size) - 1 - j := by omega
          have hq2 : B + (2 * D + a0.size) - 1 - j ≤ q := by omega
          have hji : (j : Int) < (D : Int) := by omega
          clear hfj hb hp hq hch hd0 hd1 hd2
          have HX : Hid (∀ a v, wo.cell? a = some v → wr.cell? a = some v) := cells
          clear cells
          go_wp2_with fail
          refine (paren_pos p b wr hc1).mono ?_
          rintro e w' ⟨rfl, hw'⟩
          subst w'
          go_wp2_with fail
          refine (paren_end q b wr hc2 (by omega) (by omega)).mono ?_
          rintro e w' ⟨rfl, hw'⟩
          subst w'
          go_wp2_with fail
          go_quiet (first | (go_at_call 6; exact Calls.quiet_of_same (paren_str' a0 (by omega) _ (D - j) (by omega) (by omega) b _ (chain_drewN _ HC.out))))
          go_wp2_with fail
          · rename_i hx
            exact (span_no hlt hp1 hp2 hq1 hq2 hx).elim
          · have hj1 : j + 1 < D := by omega
            have hj2 : (j : Int) + 1 < (D : Int) := by omega
            have hj3 : (0 : Int) ≤ (j : Int) + 1 := by omega
            obtain ⟨b', p', q', hfj, hb, hd1, hd2, hp, hq, hch⟩ := HL.out (j + 1) hj1
            have hd0 := HR.out.cell hj1
            rw [hfj] at hd0
            generalize hwy : wr.drewN nq = wy
            obtain ⟨n2, hn2⟩ : ∃ n2 : Nat, wy = wo.drewN n2 := ⟨n + nq, by rw [← hwy, HW.out, World.drewN_drewN]⟩
            have HY : Hid (wy = wo.drewN n2) := hn2
            have old : ∀ a v, wr.cell? a = some v → wy.cell? a = some v := fun a v h => by rw [← hwy]; exact h
            have hc0' := old _ _ (HX.out _ _ hd0)
            have hc1' := old _ _ (HX.out _ _ hd1)
            have hc2' := old _ _ (HX.out _ _ hd2)
            have hg0 := old _ _ hc0
            have hg1 := old _ _ hc1
            have hg2 := old _ _ hc2
            clear hn2 hwy old hc0 hc1 hc2
            have hpp : p < p' := by omega
            have hqq : q' < q := by omega
            have hqq2 : q' + 1 < q + 1 := by omega
            have hq3 : 0 ≤ q' := by omega
            have hq4 : q' ≤ 4294967296 := by omega
            have hq5 : 0 ≤ q := by omega
            have hq6 : q ≤ 4294967296 := by omega
            clear hfj hb hp hq hch hd0 hd1 hd2
            go_quiet (first | (go_at_call_of 9 b; exact Calls.quiet_of_same (paren_pos p b _ hg1)) | (go_at_call_of 9 b'; exact Calls.quiet_of_same (paren_pos p' b' _ hc1')) | (go_at_call_of 8 b; exact Calls.quiet_of_same (paren_end q b _ hg2 hq5 hq6)) | (go_at_call_of 8 b'; exact Calls.quiet_of_same (paren_end q' b' _ hc2' hq3 hq4)))
            go_wp2_with fail
            go_roundw
            case rel => exact ⟨j + 1, n2 + nq, by omega, by go_num, by rw [HY.out, World.drewN_drewN]⟩
            case measure => simp [intOf]; omega
          · go_roundw
            case rel => exact ⟨j + 1, n + nq, by omega, by go_num, by rw [HW.out, World.drewN_drewN]⟩
            case measure => simp [intOf]; omega
        · clear cells
          go_wp2
          go_ret
          exact ⟨rfl, by rw [HW.out]; exact HG.out⟩
    · have e : (((m + 1 : Nat) : Int) - 1) = (m : Int) := by omega
      rw [e]
      clear e
      obtain ⟨f, hr, hl, hg⟩ := hinv
      have hc := hr.cell (i := m) (by omega)
      have hf := hr.frozen m
      have hz := hr.lt
      have HR : Hid (wr.rowIs w.heap.size 23 D f) := hr
      have HL : Hid (∀ j, m + 1 ≤ j → j < D → Lev wr w.heap.size a0 B D f j) := hl
      have HG : Hid (Grown w wr) := hg
      clear hr hl hg
      by_cases hmD : m + 1 = D
      · have ht : ((m : Int) == (D : Int) - 1) = true := beq_iff_eq.2 (by omega)
        have HD : Hid (m + 1 = D) := hmD
        clear hmD
        go_wp2
        go_roundw
        case rel => exact ⟨m, by omega, rfl, inv_first' ⟨f, HR.out, fun j hj => HL.out j (by have := HD.out; omega), HG.out⟩ HD.out rfl rfl⟩
        case measure => simp [intOf]
      · have ht : ((m : Int) == (D : Int) - 1) = false := beq_eq_false_iff_ne.2 (by omega)
        have hm1 : m + 1 < D := by omega
        have hm2 : (m : Int) + 1 < (D : Int) := by omega
        obtain ⟨c, hfm⟩ : ∃ c : Nat, f (m + 1) = .pointer (some ⟨c, 0, none⟩) := by
          obtain ⟨c, _, _, hfm, _⟩ := HL.out (m + 1) (Nat.le_refl _) hm1
          exact ⟨c, hfm⟩
        have hc2 := HR.out.cell hm1
        rw [hfm] at hc2
        have HF : Hid (f (m + 1) = .pointer (some ⟨c, 0, none⟩)) := hfm
        clear hfm hmD
        go_wp2
        go_roundw
        case rel => exact ⟨m, by omega, rfl, inv_next' HR.out HL.out HG.out hm1 HF.out rfl rfl⟩
        case measure => simp [intOf]

theorem walk (a0 : ByteArray) (a1 a2 : Int) (w0 : a0.size ≤ maxLen) (w : World) :
    Calls Ecfg.prog 4 #[.string a0, .int .i64 a1, .int .i64 a2] w fun e w' => e = .returned (.bool true) ∧ Grown w w' := by
  by_cases hl : 1048576 < a0.size
  · exact walk_long a0 a1 a2 w0 hl w
  by_cases hw : 4096 < a0.size ∨ a0.size ≤ 4096 ∧ (a2 < 1 ∨ 256 < a2 ∨ 1 ≤ a2 ∧ a2 ≤ 256 ∧ (a1 < 0 ∨ 1073741824 < a1))
  · exact walk_wide a0 a1 a2 (by omega) hw w
  obtain ⟨B, rfl⟩ := Int.eq_ofNat_of_zero_le (show 0 ≤ a1 by omega)
  obtain ⟨D, rfl⟩ := Int.eq_ofNat_of_zero_le (show 0 ≤ a2 by omega)
  exact walk_main a0 B D (by omega) (by omega) (by omega) (by omega) w
end Go.Proofs.Yoecfw.WalkB
