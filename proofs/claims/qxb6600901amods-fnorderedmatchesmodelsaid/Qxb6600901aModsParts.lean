import Derived.Test.Qxb6600901aModsRows
import Derived.WalkKit
import Derived.ProofKit
import Derived.WalkSpells
import Derived.Below
namespace Go.Proofs.Qxb6600901aMods.Od
open Go.ChangeShapes Go.WideShapes Go.ChangeAt Go.RowKit

/-- What the walks are told of a slice of strings: it is empty, or its first 'len' cells hold S 0, S 1, .. -/
def Row (w : World) (a : Option Addr) (len : Nat) (S : Nat → ByteArray) : Prop :=
  len = 0 ∨ ∃ b off, a = some ⟨b, off, none⟩ ∧ ∀ k, k < len → w.cell? ⟨b, off + k, none⟩ = some (.string (S k))
theorem Row.at {w : World} {a : Option Addr} {len : Nat} {S : Nat → ByteArray} (h : Row w a len S) {k : Nat} (hk : k < len) : ∃ b off, a = some ⟨b, off, none⟩ ∧ w.cell? ⟨b, off + k, none⟩ = some (.string (S k)) := by
  rcases h with h | ⟨b, off, e, hc⟩
  · omega
  · exact ⟨b, off, e, hc k hk⟩
def has (S : Nat → ByteArray) (s : ByteArray) : Nat → Bool
  | 0 => false
  | n + 1 => has S s n || ((S n).toList == s.toList)
set_option maxHeartbeats 1000000 in
theorem has15 (a : Option Addr) (len cap : Nat) (S : Nat → ByteArray) (s : ByteArray) (w : World) (hrow : Row w a len S) (hl : len ≤ 9223372036854775807) :
    Calls Trym.prog 15 #[.slice a len cap, .string s] w fun e w' => e = .returned (.bool (has S s len)) ∧ w' = w := by
  generalize hn : has S s len = x
  have HX : Hid (has S s len = x) := hn
  clear hn
  go_enter Trym.func15, Trym.ntmps15
  go_wp2
  go_loop [5] (fun i => ∃ k : Nat, k ≤ len ∧ i = .int .i64 k ∧ Hid (has S s k = false)) (fun i => len - (intOf i).toNat)
  case atStart => exact ⟨0, Nat.zero_le _, rfl, rfl⟩
  case round =>
    obtain ⟨k, hk, rfl, hn⟩ := hrel
    by_cases hlt : k < len
    · obtain ⟨b, off, rfl, hc⟩ := hrow.at hlt
      clear hrow
      by_cases hb : ((S k).toList == s.toList) = true
      · obtain rfl : x = true := by
          rw [← HX.out]
          have : ∀ m, k < m → has S s m = true := by
            intro m
            induction m with
            | zero => intro h; omega
            | succ m ih =>
              intro h
              by_cases e : k = m
              · subst e; simp [has, hb]
              · simp [has, ih (by omega)]
          exact this len hlt
        go_wp2
        go_ret
        exact ⟨rfl, rfl⟩
      · have hb' : ((S k).toList == s.toList) = false := by simpa using hb
        have H : Hid (has S s (k + 1) = false) := by
          show has S s (k + 1) = false
          simp [has, hn.out, hb']
        clear hb
        go_wp2
        go_round
        case rel => exact ⟨k + 1, by omega, by go_num, H⟩
        case measure => simp [intOf]; omega
    · obtain rfl : k = len := by omega
      obtain rfl : x = false := by rw [← HX.out]; exact hn.out
      go_wp2
      go_ret
      exact ⟨rfl, rfl⟩

theorem Row.later {w w' : World} {a : Option Addr} {len : Nat} {S : Nat → ByteArray} (h : Row w a len S) (hb : Below w.heap.size w w') : Row w' a len S := by
  rcases h with h | ⟨b, off, e, hc⟩
  · exact .inl h
  · exact .inr ⟨b, off, e, fun k hk => (hb.cell (World.block_lt_of_cell? _ _ (hc k hk))).trans (hc k hk)⟩
def IsB (e : Ending) : Prop := ∃ x : Bool, e = .returned (.bool x)
def Fits (n m : Nat) (e : Ending) : Prop := ∃ x : Bool, e = .returned (.bool x) ∧ (x = true → n ≤ 4096 ∧ m ≤ 4096)

/-! ### zzBytes, fits: they answer some bool; where fits says yes both lists are short -/
set_option maxHeartbeats 1000000 in
theorem bytes6 (a b : Option Addr) (n m c d : Nat) (I O : Nat → ByteArray) (w : World) (hI : Row w a n I) (hO : Row w b m O) (hn : n ≤ 9223372036854775807) (hm : m ≤ 9223372036854775807) :
    Calls Trym.prog 6 #[.slice a n c, .slice b m d] w fun e w' => IsB e ∧ w' = w := by
  by_cases h1 : (1048576 : Int) < n
  · go_enter Trym.func6, Trym.ntmps6
    go_wp2
    go_ret
    exact ⟨⟨_, rfl⟩, rfl⟩
  · go_enter Trym.func6, Trym.ntmps6
    go_wp2
    go_loop [5, 6] (fun t i => ∃ k : Nat, k ≤ n ∧ i = .int .i64 k ∧ ∃ z, t = .int .i64 z) (fun _ i => n - (intOf i).toNat)
    case atStart => exact ⟨0, Nat.zero_le _, rfl, _, rfl⟩
    case round =>
      obtain ⟨k, hk, rfl, z, rfl⟩ := hrel
      by_cases hlt : k < n
      · obtain ⟨ab, off, rfl, hc⟩ := hI.at hlt
        clear hI
        go_wp2
        all_goals first
          | (go_ret; exact ⟨⟨_, rfl⟩, rfl⟩)
          | (go_round; (case rel => exact ⟨k + 1, by omega, by go_num, _, rfl⟩); (case measure => simp [intOf]; omega))
      · by_cases h2 : (1048576 : Int) < m
        · go_wp2
          go_ret
          exact ⟨⟨_, rfl⟩, rfl⟩
        · go_wp2
          all_goals first
            | (go_ret; exact ⟨⟨_, rfl⟩, rfl⟩)
            | skip
          go_loop [5, 7] (fun t i => ∃ k : Nat, k ≤ m ∧ i = .int .i64 k ∧ ∃ z, t = .int .i64 z) (fun _ i => m - (intOf i).toNat)
          case atStart => exact ⟨0, Nat.zero_le _, rfl, _, rfl⟩
          case round =>
            obtain ⟨k2, hk2, rfl, z2, rfl⟩ := hrel
            by_cases hlt2 : k2 < m
            · obtain ⟨ab, off, rfl, hc⟩ := hO.at hlt2
              clear hO
              go_wp2
              all_goals first
                | (go_ret; exact ⟨⟨_, rfl⟩, rfl⟩)
                | (go_round; (case rel => exact ⟨k2 + 1, by omega, by go_num, _, rfl⟩); (case measure => simp [intOf]; omega))
            · go_wp2
              go_ret
              exact ⟨⟨_, rfl⟩, rfl⟩

set_option maxHeartbeats 1000000 in
theorem fits7 (a b : Option Addr) (n m c d : Nat) (I O : Nat → ByteArray) (w : World) (hI : Row w a n I) (hO : Row w b m O) (hn : n ≤ 9223372036854775807) (hm : m ≤ 9223372036854775807) :
    Calls Trym.prog 7 #[.slice a n c, .slice b m d] w fun e w' => Fits n m e ∧ w' = w := by
  by_cases h1 : (4096 : Int) < n
  · go_enter Trym.func7, Trym.ntmps7
    go_wp2
    go_ret
    exact ⟨⟨false, rfl, fun h => by simp at h⟩, rfl⟩
  by_cases h2 : (4096 : Int) < m
  · go_enter Trym.func7, Trym.ntmps7
    go_wp2
    go_ret
    exact ⟨⟨false, rfl, fun h => by simp at h⟩, rfl⟩
  have H : Hid (n ≤ 4096 ∧ m ≤ 4096) := ⟨by omega, by omega⟩
  go_enter Trym.func7, Trym.ntmps7
  go_wp2
  go_loop [5, 6] (fun t i => ∃ k : Nat, k ≤ n ∧ i = .int .i64 k ∧ ∃ z, t = .int .i64 z) (fun _ i => n - (intOf i).toNat)
  case atStart => exact ⟨0, Nat.zero_le _, rfl, _, rfl⟩
  case round =>
    obtain ⟨k, hk, rfl, z, rfl⟩ := hrel
    by_cases hlt : k < n
    · obtain ⟨ab, off, rfl, hc⟩ := hI.at hlt
      clear hI
      go_wp2
      all_goals first
        | (go_ret; exact ⟨⟨_, rfl, fun _ => H.out⟩, rfl⟩)
        | (go_round; (case rel => exact ⟨k + 1, by omega, by go_num, _, rfl⟩); (case measure => simp [intOf]; omega))
    · go_wp2
      go_loop [5, 7] (fun t i => ∃ k : Nat, k ≤ m ∧ i = .int .i64 k ∧ ∃ z, t = .int .i64 z) (fun _ i => m - (intOf i).toNat)
      case atStart => exact ⟨0, Nat.zero_le _, rfl, _, rfl⟩
      case round =>
        obtain ⟨k2, hk2, rfl, z2, rfl⟩ := hrel
        by_cases hlt2 : k2 < m
        · obtain ⟨ab, off, rfl, hc⟩ := hO.at hlt2
          clear hO
          go_wp2
          all_goals first
            | (go_ret; exact ⟨⟨_, rfl, fun _ => H.out⟩, rfl⟩)
            | (go_round; (case rel => exact ⟨k2 + 1, by omega, by go_num, _, rfl⟩); (case measure => simp [intOf]; omega))
        · go_wp2
          go_ret
          exact ⟨⟨_, rfl, fun _ => H.out⟩, rfl⟩

/-! ### cloneStrings -/
theorem info9 : (Trym.prog.info? 9).map (fun i => (i.zero, i.size, i.bytes)) = some (some (.string ByteArray.empty), 1, 16) := by kernel_rfl
theorem mk (n : Nat) (hb : n ≤ 4096) (w : World) :
    (Instr.makeSlice 22 (.int .i64 n) (.int .i64 n)).run Trym.prog w = .ok (.slice (some ⟨w.heap.size, 0, none⟩) n n) (w.alloc (.cells (madeCells #[.string ByteArray.empty] n) 9)) := by
  obtain ⟨i, hi, hz0, hz1, hz2⟩ := info_parts info9
  have h := run_make (P := Trym.prog) w 22 9 i _ Trym.underlying22 hi hz0 .i64 .i64 n n (by omega) (by omega) (by rw [hz2]; omega) (by omega)
  rw [hz1] at h
  simpa [Value.cells] using h
theorem made_at (z : Value) (n k : Nat) (h : k < n) : (madeCells #[z] n)[k]? = some z := by
  rw [← Array.getElem?_toList, toList_madeCells_one, List.getElem?_replicate, if_pos h]
/-- The copy behind k rounds. -/
structure Cp (w wr : World) (g k len : Nat) (S : Nat → ByteArray) : Prop where
  below : Below w.heap.size w wr
  done : ∀ j, j < k → wr.cell? ⟨g, j, none⟩ = some (.string (S j))
  there : ∀ j, j < len → ∃ v, wr.cell? ⟨g, j, none⟩ = some v
  free : ∀ j, wr.frozen? ⟨g, j, none⟩ = false
theorem Cp.start (w : World) (len : Nat) (S : Nat → ByteArray) : Cp w (w.alloc (.cells (madeCells #[.string ByteArray.empty] len) 9)) w.heap.size 0 len S :=
  ⟨(Below.refl _ _).alloc (Nat.le_refl _) _, fun _ hj => absurd hj (Nat.not_lt_zero _), fun j hj => ⟨_, (World.cell?_alloc_at (w := w) _ _ _ j rfl).trans (made_at _ len j hj)⟩, fun j => World.frozen?_alloc_at (w := w) _ _ _ j rfl⟩
theorem Cp.step {w wr : World} {k len : Nat} {S : Nat → ByteArray} (h : Cp w wr w.heap.size k len S) (hk : k < len) : Cp w (wr.setCell ⟨w.heap.size, k, none⟩ (.string (S k))) w.heap.size (k + 1) len S := by
  refine ⟨h.below.setCell (Nat.le_refl _) _, fun j hj => ?_, fun j hj => ?_, fun j => (World.frozen?_setCell _ _ _ _).trans (h.free j)⟩
  · by_cases e : j = k
    · subst e
      obtain ⟨v, hv⟩ := h.there j hk
      exact World.cell?_setCell_same _ _ _ hv
    · rw [World.cell?_setCell_other _ _ _ _ (by intro c; injection c with c1 c2; omega)]
      exact h.done j (by omega)
  · by_cases e : j = k
    · subst e
      obtain ⟨v, hv⟩ := h.there j hk
      exact ⟨_, World.cell?_setCell_same _ _ _ hv⟩
    · rw [World.cell?_setCell_other _ _ _ _ (by intro c; injection c with c1 c2; omega)]
      exact h.there j hj
def Copied (e : Ending) (w w' : World) (len : Nat) (S : Nat → ByteArray) : Prop :=
  ∃ a, e = .returned (.slice a len len) ∧ Row w' a len S ∧ Below w.heap.size w w'
set_option maxHeartbeats 1000000 in
theorem clone8 (a : Option Addr) (len cap : Nat) (S : Nat → ByteArray) (w : World) (hrow : Row w a len S) (hnil : a = none → len = 0 ∧ cap = 0) (hl : len ≤ 4096) :
    Calls Trym.prog 8 #[.slice a len cap] w fun e w' => Copied e w w' len S := by
  have q22 : ∀ (w : World) (a : Option Addr) (n c n' c' : Nat), (binOp .eql 22 (.slice a n c) (.slice none n' c')).run Trym.prog w = .ok (.bool a.isNone) w := fun w a n c n' c' => Lib.run_eql_slice_nil w _ _ a n c n' c' Trym.underlying22
  cases a with
  | none =>
    obtain ⟨rfl, rfl⟩ := hnil rfl
    go_enter Trym.func8, Trym.ntmps8
    go_wp2
    go_ret
    exact ⟨none, rfl, .inl rfl, Below.refl _ _⟩
  | some ad =>
    have km := mk len hl
    clear hnil
    go_enter Trym.func8, Trym.ntmps8
    go_wp2
    go_loopw [4] (fun i wr => ∃ k : Nat, k ≤ len ∧ i = .int .i64 k ∧ Cp w wr w.heap.size k len S) (fun i _ => len - (intOf i).toNat)
    case atStart => exact ⟨0, Nat.zero_le _, rfl, Cp.start w len S⟩
    case round =>
      obtain ⟨k, hk, rfl, hcp⟩ := hrel
      by_cases hlt : k < len
      · obtain ⟨b, off, e, hcell⟩ := hrow.at hlt
        injection e with e
        subst e
        have hb : b < w.heap.size := World.block_lt_of_cell? _ _ hcell
        have hc : wr.cell? ⟨b, off + k, none⟩ = some (.string (S k)) := (hcp.below.cell hb).trans hcell
        obtain ⟨v, hv⟩ := hcp.there k hlt
        have hf := hcp.free k
        have hst := hcp.step hlt
        clear hcell hcp hb km q22 hrow
        go_wp2
        go_roundw
        case rel => exact ⟨k + 1, by omega, by go_num, hst⟩
        case measure => simp [intOf]; omega
      · obtain rfl : k = len := by omega
        go_wp2
        go_ret
        exact ⟨_, rfl, .inr ⟨_, _, rfl, fun j hj => by rw [Nat.zero_add]; exact hcp.done j hj⟩, hcp.below⟩
end Go.Proofs.Qxb6600901aMods.Od
