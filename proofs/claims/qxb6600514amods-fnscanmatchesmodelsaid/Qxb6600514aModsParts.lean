import Derived.Test.Qxb6600514aModsRows
import Derived.Test.Qxb6600514aModsPlain
import Derived.WalkKit
import Derived.ProofKit
import Derived.WalkSpells
import Derived.Below
namespace Go.Proofs.Qxb6600514aMods.Sc
open Go.ChangeShapes Go.WideShapes Go.ChangeAt Go.RowKit

/-- What the walks are told of a slice of bytes: it is empty, or its first 'len' cells hold Z 0, Z 1, .. -/
def Row (w : World) (a : Option Addr) (len : Nat) (Z : Nat → Int) : Prop :=
  len = 0 ∨ ∃ b off, a = some ⟨b, off, none⟩ ∧ ∀ k, k < len → w.cell? ⟨b, off + k, none⟩ = some (.int .u8 (Z k))
theorem Row.later {w w' : World} {a : Option Addr} {len : Nat} {Z : Nat → Int} (h : Row w a len Z) (hb : Below w.heap.size w w') : Row w' a len Z := by
  rcases h with h | ⟨b, off, e, hc⟩
  · exact .inl h
  · exact .inr ⟨b, off, e, fun k hk => (hb.cell (World.block_lt_of_cell? _ _ (hc k hk))).trans (hc k hk)⟩
theorem bcell {W w1 : World} {B : Nat} (hb : Below B W w1) : (∀ b o, b < B → w1.cell? ⟨b, o, none⟩ = W.cell? ⟨b, o, none⟩) ∧ (∀ b o, b < B → w1.frozen? ⟨b, o, none⟩ = W.frozen? ⟨b, o, none⟩) :=
  ⟨fun b o h => hb.cell (p := ⟨b, o, none⟩) h, fun b o h => hb.frozen (p := ⟨b, o, none⟩) h⟩
def IsB (e : Ending) : Prop := ∃ x : Bool, e = .returned (.bool x)

/-! ### past -/
def pastB (b n : Int) : Bool := decide (0 < b ∧ b < n)
theorem past24 (b n : Int) (w : World) : Calls Trym.prog 24 #[.int .i64 b, .int .i64 n] w fun e w' => e = .returned (.bool (pastB b n)) ∧ w' = w := by
  by_cases h1 : 0 < b
  · by_cases h2 : b < n
    · have H : Hid (pastB b n = true) := by show pastB b n = true; simp [pastB, h1, h2]
      go_enter Trym.func24, Trym.ntmps24
      go_wp2
      go_ret
      exact ⟨by rw [H.out]; simp, rfl⟩
    · have H : Hid (pastB b n = false) := by show pastB b n = false; simp [pastB, h2]
      go_enter Trym.func24, Trym.ntmps24
      go_wp2
      go_ret
      exact ⟨by rw [H.out]; simp, rfl⟩
  · have H : Hid (pastB b n = false) := by show pastB b n = false; simp [pastB, h1]
    have h1' : decide (0 < b) = false := by simpa using h1
    go_enter Trym.func24, Trym.ntmps24
    go_wp2
    go_ret
    exact ⟨by rw [H.out]; simp, rfl⟩

/-! ### zzBytes -/
theorem bytes13 (D K : Int) (a : Option Addr) (len cap : Nat) (w : World) : Calls Trym.prog 13 #[.int .i64 D, .int .i64 K, .slice a len cap] w fun e w' => IsB e ∧ w' = w := by
  by_cases h1 : (1048576 : Int) < len
  · go_enter Trym.func13, Trym.ntmps13
    go_wp2
    all_goals (go_ret; exact ⟨⟨_, rfl⟩, rfl⟩)
  · go_enter Trym.func13, Trym.ntmps13
    go_wp2
    all_goals (go_ret; exact ⟨⟨_, rfl⟩, rfl⟩)

/-! ### zzCopy -/
theorem info5 : (Trym.prog.info? 5).map (fun i => (i.zero, i.size, i.bytes)) = some (some (.int .u8 0), 1, 1) := by kernel_rfl
theorem mk (n : Nat) (hb : n ≤ 1048576) (w : World) :
    (Instr.makeSlice 25 (.int .i64 n) (.int .i64 n)).run Trym.prog w = .ok (.slice (some ⟨w.heap.size, 0, none⟩) n n) (w.alloc (.cells (madeCells #[.int .u8 0] n) 5)) := by
  obtain ⟨i, hi, hz0, hz1, hz2⟩ := info_parts info5
  have h := run_make (P := Trym.prog) w 25 5 i _ Trym.underlying25 hi hz0 .i64 .i64 n n (by omega) (by omega) (by rw [hz2]; omega) (by omega)
  rw [hz1] at h
  simpa [Value.cells] using h
theorem made_at (z : Value) (n k : Nat) (h : k < n) : (madeCells #[z] n)[k]? = some z := by
  rw [← Array.getElem?_toList, toList_madeCells_one, List.getElem?_replicate, if_pos h]
/-- The copy behind k rounds. -/
structure Cp (w wr : World) (g k len : Nat) (Z : Nat → Int) : Prop where
  below : Below w.heap.size w wr
  done : ∀ j, j < k → wr.cell? ⟨g, j, none⟩ = some (.int .u8 (Z j))
  there : ∀ j, j < len → ∃ v, wr.cell? ⟨g, j, none⟩ = some v
  free : ∀ j, wr.frozen? ⟨g, j, none⟩ = false
theorem Cp.start (w : World) (len : Nat) (Z : Nat → Int) : Cp w (w.alloc (.cells (madeCells #[.int .u8 0] len) 5)) w.heap.size 0 len Z :=
  ⟨(Below.refl _ _).alloc (Nat.le_refl _) _, fun _ hj => absurd hj (Nat.not_lt_zero _), fun j hj => ⟨_, (World.cell?_alloc_at (w := w) _ _ _ j rfl).trans (made_at _ len j hj)⟩, fun j => World.frozen?_alloc_at (w := w) _ _ _ j rfl⟩
theorem Cp.step {w wr : World} {k len : Nat} {Z : Nat → Int} (h : Cp w wr w.heap.size k len Z) (hk : k < len) : Cp w (wr.setCell ⟨w.heap.size, k, none⟩ (.int .u8 (Z k))) w.heap.size (k + 1) len Z := by
  refine ⟨h.below.setCell (Nat.le_refl _) _, fun j hj => ?_, fun j hj => ?_, fun j => (World.frozen?_setCell _ _ _ _).trans (h.free j)⟩
  · by_cases e : j = k
    · subst e
      obtain ⟨v, hv⟩ := h.there j hk
      exact World.cell?_setCell_same _ _ _ hv
    · rw [World.cell?_setCell_other _ _ _ _ (by intro c; injection c with c1 c2; omega)]
      exact h.done j (by omega)
  · by_cases e : j = k
    · subst e
      obtain ⟨v, hv⟩ := h.there j hk
      exact ⟨_, World.cell?_setCell_same _ _ _ hv⟩
    · rw [World.cell?_setCell_other _ _ _ _ (by intro c; injection c with c1 c2; omega)]
      exact h.there j hj
def Copied (e : Ending) (w w' : World) (len : Nat) (Z : Nat → Int) : Prop :=
  ∃ a, e = .returned (.slice a len len) ∧ Row w' a len Z ∧ Below w.heap.size w w'
set_option maxHeartbeats 1000000 in
theorem copy14 (a : Option Addr) (len cap : Nat) (Z : Nat → Int) (w : World) (hrow : Row w a len Z) (hnil : a = none → len = 0 ∧ cap = 0) (hl : len ≤ 1048576) :
    Calls Trym.prog 14 #[.slice a len cap] w fun e w' => Copied e w w' len Z := by
  have q25 : ∀ (w : World) (a : Option Addr) (n c n' c' : Nat), (binOp .eql 25 (.slice a n c) (.slice none n' c')).run Trym.prog w = .ok (.bool a.isNone) w := fun w a n c n' c' => Lib.run_eql_slice_nil w _ _ a n c n' c' Trym.underlying25
  cases a with
  | none =>
    obtain ⟨rfl, rfl⟩ := hnil rfl
    go_enter Trym.func14, Trym.ntmps14
    go_wp2
    go_ret
    exact ⟨none, rfl, .inl rfl, Below.refl _ _⟩
  | some ad =>
    have km := mk len hl
    rcases hrow with rfl | ⟨b, off, e, hcell⟩
    · clear hnil km
      have km0 : ∀ w, (Instr.makeSlice 25 (.int .i64 0) (.int .i64 0)).run Trym.prog w = .ok (.slice (some ⟨w.heap.size, 0, none⟩) 0 0) (w.alloc (.cells (madeCells #[.int .u8 0] 0) 5)) := fun w => mk 0 (by omega) w
      go_enter Trym.func14, Trym.ntmps14
      go_wp2
      go_loop [4] (fun i => i = .int .i64 0) (fun _ => 0)
      case atStart => exact rfl
      case round =>
        obtain rfl := hrel
        go_wp2
        go_ret
        exact ⟨_, rfl, .inl rfl, (Below.refl _ _).alloc (Nat.le_refl _) _⟩
    · injection e with e
      subst e
      clear hnil
      go_enter Trym.func14, Trym.ntmps14
      go_wp2
      go_loopw [4] (fun i wr => ∃ k : Nat, k ≤ len ∧ i = .int .i64 k ∧ Cp w wr w.heap.size k len Z) (fun i _ => len - (intOf i).toNat)
      case atStart => exact ⟨0, Nat.zero_le _, rfl, Cp.start w len Z⟩
      case round =>
        obtain ⟨k, hk, rfl, hcp⟩ := hrel
        by_cases hlt : k < len
        · have hb : b < w.heap.size := World.block_lt_of_cell? _ _ (hcell k hlt)
          have hc : wr.cell? ⟨b, off + k, none⟩ = some (.int .u8 (Z k)) := (hcp.below.cell hb).trans (hcell k hlt)
          obtain ⟨v, hv⟩ := hcp.there k hlt
          have hf := hcp.free k
          have hst := hcp.step hlt
          clear hcell hcp hb km q25
          go_wp2
          go_roundw
          case rel => exact ⟨k + 1, by omega, by go_num, hst⟩
          case measure => simp [intOf]; omega
        · obtain rfl : k = len := by omega
          go_wp2
          go_ret
          exact ⟨_, rfl, .inr ⟨_, _, rfl, fun j hj => by rw [Nat.zero_add]; exact hcp.done j hj⟩, hcp.below⟩

/-! ### zzBackslashesBefore -/
theorem backs_stop {Z : Nat → Int} {i t m : Nat} (h : backs Z i = m + backs Z (t + 1)) (hz : Z t ≠ 92) : backs Z i = m := by
  rw [h]; simp [backs, hz]
theorem backs_on {Z : Nat → Int} {i t m : Nat} (h : backs Z i = m + backs Z (t + 1)) (hz : Z t = 92) : backs Z i = (m + 1) + backs Z t := by
  rw [h]; simp [backs, hz]; omega
theorem ret_int {k : IntKind} {a b : Int} (h : a = b) : Ending.returned (.int k a) = .returned (.int k b) := by rw [h]
set_option maxHeartbeats 1000000 in
theorem backs22 (a : Option Addr) (len cap i : Nat) (Z : Nat → Int) (w : World) (hrow : Row w a len Z) (hi : i ≤ len) (hl : len ≤ 1048576) :
    Calls Trym.prog 22 #[.slice a len cap, .int .i64 i] w fun e w' => e = .returned (.int .i64 (backs Z i)) ∧ w' = w := by
  have hbl := backs_le Z i
  generalize hn : backs Z i = n
  have HN : Hid (backs Z i = n) := hn
  clear hn hbl
  rcases hrow with rfl | ⟨b, off, rfl, hcell⟩
  · obtain rfl : i = 0 := by omega
    obtain rfl : n = 0 := HN.out.symm
    go_enter Trym.func22, Trym.ntmps22
    go_wp2
    go_loop [5, 6] (fun x y => x = .int .i64 0 ∧ y = .int .i64 (-1)) (fun _ _ => 0)
    case atStart => exact ⟨rfl, rfl⟩
    case round =>
      obtain ⟨rfl, rfl⟩ := hrel
      go_wp2
      go_ret
      exact ⟨rfl, rfl⟩
  · go_enter Trym.func22, Trym.ntmps22
    go_wp2
    go_loop [5, 6] (fun x y => ∃ (t m : Nat) (J : Int), t + m ≤ i ∧ x = .int .i64 m ∧ y = .int .i64 J ∧ Hid (J = t - 1 ∧ backs Z i = m + backs Z t)) (fun _ y => (intOf y + 1).toNat)
    case atStart => exact ⟨i, 0, _, by omega, rfl, rfl, rfl, by simp⟩
    case round =>
      obtain ⟨t, m, J, htm, rfl, rfl, hJ, hB⟩ := hrel
      cases t with
      | zero =>
        obtain rfl : J = -1 := by rw [hJ]; rfl
        have HM : Hid (n = m) := by show n = m; rw [← HN.out, hB]; simp [backs]
        clear hJ hB hcell
        go_wp2
        go_ret
        exact ⟨ret_int (by rw [HM.out]), rfl⟩
      | succ t =>
        obtain rfl : J = t := by omega
        have hc := hcell t (by omega)
        clear hcell
        by_cases hz : Z t = 92
        · rw [hz] at hc
          have HB : Hid (backs Z i = (m + 1) + backs Z t) := backs_on hB hz
          clear hB hz hJ
          go_wp2
          go_round
          case rel => exact ⟨t, m + 1, _, by omega, by go_num, rfl, rfl, HB.out⟩
          case measure => simp [intOf]
        · have hz' : (Z t == 92) = false := by simp [hz]
          have HM : Hid (n = m) := by show n = m; rw [← HN.out]; exact backs_stop hB hz
          clear hB hz hJ
          go_wp2
          go_ret
          exact ⟨ret_int (by rw [HM.out]), rfl⟩
end Go.Proofs.Qxb6600514aMods.Sc
