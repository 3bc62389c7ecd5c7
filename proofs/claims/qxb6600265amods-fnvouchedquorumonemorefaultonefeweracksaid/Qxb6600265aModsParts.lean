import Derived.Test.Qxb6600265aModsRows
import Derived.WalkKit
import Derived.ProofKit
import Derived.Below
namespace Go.Proofs.Qxb6600265aMods.Vq
open Go.ChangeShapes Go.WideShapes Go.ChangeAt Go.RowKit
/-- What the walks are told of a slice of strings: it is empty, or its first 'len' cells hold S 0, S 1, .. -/
def Row (w : World) (a : Option Addr) (len : Nat) (S : Nat → ByteArray) : Prop :=
  len = 0 ∨ ∃ b off, a = some ⟨b, off, none⟩ ∧ ∀ k, k < len → w.cell? ⟨b, off + k, none⟩ = some (.string (S k))
def IsB (e : Ending) : Prop := ∃ x : Bool, e = .returned (.bool x)
def IsI (e : Ending) : Prop := ∃ x : Int, e = .returned (.int .i64 x)

set_option maxHeartbeats 1000000 in
theorem bytes11 (a : Option Addr) (len cap : Nat) (S : Nat → ByteArray) (s : ByteArray) (q : Int) (w : World) (hrow : Row w a len S) (hl : len ≤ 9223372036854775807) :
    Calls Trym.prog 11 #[.slice a len cap, .string s, .int .i64 q] w fun e w' => IsB e ∧ w' = w := by
  rcases hrow with rfl | ⟨b, off, rfl, hcell⟩
  · go_enter Trym.func11, Trym.ntmps11
    go_wp2
    go_loop [7, 8] (fun n i => i = .int .i64 0 ∧ ∃ z, n = .int .i64 z) (fun _ _ => 0)
    case atStart => exact ⟨rfl, _, rfl⟩
    case round =>
      obtain ⟨rfl, z, rfl⟩ := hrel
      go_wp2
      all_goals (go_ret; exact ⟨⟨_, rfl⟩, rfl⟩)
  · by_cases h1 : (1048576 : Int) < len
    · go_enter Trym.func11, Trym.ntmps11
      go_wp2
      all_goals (go_ret; exact ⟨⟨_, rfl⟩, rfl⟩)
    · go_enter Trym.func11, Trym.ntmps11
      go_wp2
      go_loop [7, 8] (fun n i => ∃ k : Nat, k ≤ len ∧ i = .int .i64 k ∧ ∃ z, n = .int .i64 z) (fun _ i => len - (intOf i).toNat)
      case atStart => exact ⟨0, Nat.zero_le _, rfl, _, rfl⟩
      case round =>
        obtain ⟨k, hk, rfl, z, rfl⟩ := hrel
        by_cases hlt : k < len
        · have hc := hcell k hlt
          clear hcell
          go_wp2
          all_goals first
            | (go_ret; exact ⟨⟨_, rfl⟩, rfl⟩)
            | (go_round; (case rel => exact ⟨k + 1, by omega, by go_num, _, rfl⟩); (case measure => simp [intOf]; omega))
        · go_wp2
          all_goals (go_ret; exact ⟨⟨_, rfl⟩, rfl⟩)

set_option maxHeartbeats 1000000 in
theorem bytes6 (a : Option Addr) (len cap : Nat) (S : Nat → ByteArray) (s : ByteArray) (w : World) (hrow : Row w a len S) (hl : len ≤ 9223372036854775807) :
    Calls Trym.prog 6 #[.slice a len cap, .string s] w fun e w' => IsI e ∧ w' = w := by
  by_cases h1 : (1048576 : Int) < s.size
  · go_enter Trym.func6, Trym.ntmps6
    go_wp2
    all_goals (go_ret; exact ⟨⟨_, rfl⟩, rfl⟩)
  · rcases hrow with rfl | ⟨b, off, rfl, hcell⟩
    · go_enter Trym.func6, Trym.ntmps6
      go_wp2
      go_loop [5, 6] (fun n i => i = .int .i64 0 ∧ ∃ z, n = .int .i64 z) (fun _ _ => 0)
      case atStart => exact ⟨rfl, _, rfl⟩
      case round =>
        obtain ⟨rfl, z, rfl⟩ := hrel
        go_wp2
        all_goals (go_ret; exact ⟨⟨_, rfl⟩, rfl⟩)
    · go_enter Trym.func6, Trym.ntmps6
      go_wp2
      go_loop [5, 6] (fun n i => ∃ k : Nat, k ≤ len ∧ i = .int .i64 k ∧ ∃ z, n = .int .i64 z) (fun _ i => len - (intOf i).toNat)
      case atStart => exact ⟨0, Nat.zero_le _, rfl, _, rfl⟩
      case round =>
        obtain ⟨k, hk, rfl, z, rfl⟩ := hrel
        by_cases hlt : k < len
        · have hc := hcell k hlt
          clear hcell
          go_wp2
          all_goals first
            | (go_ret; exact ⟨⟨_, rfl⟩, rfl⟩)
            | (go_round; (case rel => exact ⟨k + 1, by omega, by go_num, _, rfl⟩); (case measure => simp [intOf]; omega))
        · go_wp2
          all_goals (go_ret; exact ⟨⟨_, rfl⟩, rfl⟩)

/-! ### slices.Index, slices.Contains at []string -/
def has (S : Nat → ByteArray) (s : ByteArray) : Nat → Bool
  | 0 => false
  | n + 1 => has S s n || (s.toList == (S n).toList)
def IsIdx (e : Ending) (h : Bool) : Prop := ∃ x : Int, e = .returned (.int .i64 x) ∧ decide (0 ≤ x) = h

set_option maxHeartbeats 1000000 in
theorem index14 (a : Option Addr) (len cap : Nat) (S : Nat → ByteArray) (s : ByteArray) (w : World) (hrow : Row w a len S) (hl : len ≤ 9223372036854775807) :
    Calls Trym.prog 14 #[.slice a len cap, .string s] w fun e w' => IsIdx e (has S s len) ∧ w' = w := by
  rcases hrow with rfl | ⟨b, off, rfl, hcell⟩
  · go_enter Trym.func14, Trym.ntmps14
    go_wp2
    go_loop [8] (fun i => i = .int .i64 0) (fun _ => 0)
    case atStart => exact rfl
    case round =>
      obtain rfl := hrel
      go_wp2
      go_ret
      exact ⟨⟨_, rfl, rfl⟩, rfl⟩
  · go_enter Trym.func14, Trym.ntmps14
    go_wp2
    go_loop [8] (fun i => ∃ k : Nat, k ≤ len ∧ i = .int .i64 k ∧ Hid (has S s k = false)) (fun i => len - (intOf i).toNat)
    case atStart => exact ⟨0, Nat.zero_le _, rfl, rfl⟩
    case round =>
      obtain ⟨k, hk, rfl, hn⟩ := hrel
      by_cases hlt : k < len
      · have hc := hcell k hlt
        clear hcell
        by_cases hb : (s.toList == (S k).toList) = true
        · have H : Hid (has S s len = true) := by
            have : ∀ m, k < m → has S s m = true := by
              intro m
              induction m with
              | zero => intro h; omega
              | succ m ih =>
                intro h
                by_cases e : k = m
                · subst e; simp [has, hb]
                · simp [has, ih (by omega)]
            exact this len hlt
          go_wp2
          go_ret
          exact ⟨⟨_, rfl, by rw [H.out]; simp⟩, rfl⟩
        · have hb' : (s.toList == (S k).toList) = false := by simpa using hb
          have H : Hid (has S s (k + 1) = false) := by
            show has S s (k + 1) = false
            simp [has, hn.out, hb']
          clear hb
          go_wp2
          go_round
          case rel => exact ⟨k + 1, by omega, by go_num, H⟩
          case measure => simp [intOf]; omega
      · obtain rfl : k = len := by omega
        go_wp2
        go_ret
        exact ⟨⟨_, rfl, by rw [hn.out]; simp⟩, rfl⟩

theorem contains13 (a : Option Addr) (len cap : Nat) (S : Nat → ByteArray) (s : ByteArray) (w : World) (hrow : Row w a len S) (hl : len ≤ 9223372036854775807) :
    Calls Trym.prog 13 #[.slice a len cap, .string s] w fun e w' => e = .returned (.bool (has S s len)) ∧ w' = w := by
  go_enter Trym.func13, Trym.ntmps13
  go_wp2_with fail
  refine (index14 a len cap S s _ hrow hl).mono ?_
  rintro e w1 ⟨⟨x, rfl, hx⟩, rfl⟩
  have HX : Hid (decide (0 ≤ x) = has S s len) := hx
  clear hx
  go_wp2
  go_ret
  exact ⟨by rw [← HX.out]; rfl, rfl⟩
end Go.Proofs.Qxb6600265aMods.Vq
