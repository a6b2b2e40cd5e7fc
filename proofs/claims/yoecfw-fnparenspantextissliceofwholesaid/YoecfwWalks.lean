/-
  THE CALLEES' CONTRACTS over the dump: the two bounds on the length, (*Ident).String, (*ParenExpr).String | Pos | End.
-/
import Derived.Test.YoecfwRows
import Derived.Test.YoecfwPlain
import Derived.WalkKit
import Derived.ProofKit
namespace Go.Proofs.Yoecfw.Walks
open Go.RowKit
open Go.Proofs.Yoecfw.Plain

theorem zz5 (s : ByteArray) (d : Int) (w : World) (h : s.size ≤ 1048576) :
    Calls Ecfg.prog 5 #[.string s, .int .i64 d] w fun e w' => e = .returned (.bool true) ∧ w' = w := by
  go_enter Ecfg.func5, Ecfg.ntmps5
  go_wp2
  go_ret
  exact ⟨rfl, rfl⟩

theorem zz5_no (s : ByteArray) (d : Int) (w : World) (hs : s.size ≤ maxLen) (h : 1048576 < s.size) :
    Calls Ecfg.prog 5 #[.string s, .int .i64 d] w fun e w' => e = .returned (.bool false) ∧ w' = w := by
  unfold maxLen at hs
  go_enter Ecfg.func5, Ecfg.ntmps5
  go_wp2
  go_ret
  exact ⟨rfl, rfl⟩

theorem zz7 (s : ByteArray) (b d : Int) (w : World) (h : s.size ≤ 1048576) :
    Calls Ecfg.prog 7 #[.string s, .int .i64 b, .int .i64 d] w fun e w' => e = .returned (.bool true) ∧ w' = w := by
  go_enter Ecfg.func7, Ecfg.ntmps7
  go_wp2
  go_ret
  exact ⟨rfl, rfl⟩

theorem zz7_no (s : ByteArray) (b d : Int) (w : World) (hs : s.size ≤ maxLen) (h : 1048576 < s.size) :
    Calls Ecfg.prog 7 #[.string s, .int .i64 b, .int .i64 d] w fun e w' => e = .returned (.bool false) ∧ w' = w := by
  unfold maxLen at hs
  go_enter Ecfg.func7, Ecfg.ntmps7
  go_wp2
  go_ret
  exact ⟨rfl, rfl⟩

theorem ident_str (s : ByteArray) (b : Nat) (w : World) (hc : w.cell? ⟨b, 0, none⟩ = some (.string s)) :
    Calls Ecfg.prog 26 #[.pointer (some ⟨b, 0, none⟩)] w fun e w' => e = .returned (.string s) ∧ w' = w := by
  go_enter Ecfg.func26, Ecfg.ntmps26
  go_wp2
  go_ret
  exact ⟨rfl, rfl⟩

theorem paren_pos (p : Int) (b : Nat) (w : World) (hc : w.cell? ⟨b, 1, none⟩ = some (.int .i64 p)) :
    Calls Ecfg.prog 9 #[.pointer (some ⟨b, 0, none⟩)] w fun e w' => e = .returned (.int .i64 p) ∧ w' = w := by
  go_enter Ecfg.func9, Ecfg.ntmps9
  go_wp2
  go_ret
  exact ⟨rfl, rfl⟩

theorem paren_end (p : Int) (b : Nat) (w : World) (hc : w.cell? ⟨b, 2, none⟩ = some (.int .i64 p)) (h0 : 0 ≤ p) (h1 : p ≤ 4294967296) :
    Calls Ecfg.prog 8 #[.pointer (some ⟨b, 0, none⟩)] w fun e w' => e = .returned (.int .i64 (p + 1)) ∧ w' = w := by
  go_enter Ecfg.func8, Ecfg.ntmps8
  go_wp2
  go_ret
  exact ⟨rfl, rfl⟩

/-- k further brackets and the name lie behind the node at block b; every block on the way is at least lo -/
def Chain (w : World) (lo : Nat) (s : ByteArray) : Nat → Nat → Prop
  | 0, b => lo ≤ b ∧ ∃ ib, lo ≤ ib ∧ w.cell? ⟨b, 0, none⟩ = some (.iface 24 (.pointer (some ⟨ib, 0, none⟩))) ∧ w.cell? ⟨ib, 0, none⟩ = some (.string s)
  | k + 1, b => lo ≤ b ∧ ∃ c, w.cell? ⟨b, 0, none⟩ = some (.iface 23 (.pointer (some ⟨c, 0, none⟩))) ∧ Chain w lo s k c

theorem Chain.mono {w w' : World} {lo : Nat} {s : ByteArray} (h : ∀ b v, lo ≤ b → w.cell? ⟨b, 0, none⟩ = some v → w'.cell? ⟨b, 0, none⟩ = some v) :
    ∀ (k b : Nat), Chain w lo s k b → Chain w' lo s k b
  | 0, b, ⟨hb, ib, hib, h1, h2⟩ => ⟨hb, ib, hib, h b _ hb h1, h ib _ hib h2⟩
  | k + 1, b, ⟨hb, c, h1, h2⟩ => ⟨hb, c, h b _ hb h1, Chain.mono h k c h2⟩

theorem ret_str {a b : ByteArray} (h : a = b) : Ending.returned (.string a) = .returned (.string b) := by rw [h]
theorem meth_ident (a : Addr) (w : World) : (method 153 24 (.pointer (some a)) "String").run Ecfg.prog w = .ok (26, .pointer (some a)) w := by kernel_rfl
theorem meth_paren (a : Addr) (w : World) : (method 153 23 (.pointer (some a)) "String").run Ecfg.prog w = .ok (6, .pointer (some a)) w := by kernel_rfl

set_option maxHeartbeats 400000 in
theorem paren_str (s : ByteArray) (hs : s.size ≤ 65536) (lo : Nat) : ∀ (k : Nat), k ≤ 1024 → ∀ (b : Nat) (w : World), Chain w lo s k b →
    Calls Ecfg.prog 6 #[.pointer (some ⟨b, 0, none⟩)] w fun e w' => e = .returned (.string (par (k + 1) s)) ∧ w' = w := by
  intro k
  induction k with
  | zero =>
    intro hk b w ⟨hb, ib, hib, h1, h2⟩
    have hm := fun w => meth_ident ⟨ib, 0, none⟩ w
    go_enter Ecfg.func6, Ecfg.ntmps6
    go_wp2_with (go_at_call 26; refine (ident_str s ib _ h2).mono ?_; rintro e w' ⟨rfl, rfl⟩)
    go_ret
    exact ⟨ret_str (by rw [← par_succ, par_zero]), rfl⟩
  | succ k ih =>
    intro hk b w ⟨hb, c, h1, h2⟩
    have hm := fun w => meth_paren ⟨c, 0, none⟩ w
    have hz := par_size (k + 1) s
    have hz1 : (par (k + 1) s).size ≤ 100000 := by omega
    have HI : Hid (Calls Ecfg.prog 6 #[.pointer (some ⟨c, 0, none⟩)] w fun e w' => e = .returned (.string (par (k + 1) s)) ∧ w' = w) := ih (by omega) c w h2
    clear ih h2 hz
    go_enter Ecfg.func6, Ecfg.ntmps6
    go_wp2_with (go_at_call 6; refine (Hid.out HI).mono ?_; rintro e w' ⟨rfl, rfl⟩)
    go_ret
    exact ⟨ret_str (par_succ (k + 1) s), rfl⟩
end Go.Proofs.Yoecfw.Walks
