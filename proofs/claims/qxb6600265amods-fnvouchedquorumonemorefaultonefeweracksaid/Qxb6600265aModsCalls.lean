import Derived.Test.Qxb6600265aModsParts
import Derived.WalkSpells
namespace Go.Proofs.Qxb6600265aMods.Vq
open Go.ChangeShapes Go.WideShapes Go.ChangeAt Go.RowKit

theorem Row.later {w w' : World} {a : Option Addr} {len : Nat} {S : Nat → ByteArray} (h : Row w a len S) (hb : Below w.heap.size w w') : Row w' a len S := by
  rcases h with h | ⟨b, off, e, hc⟩
  · exact .inl h
  · exact .inr ⟨b, off, e, fun k hk => (hb.cell (World.block_lt_of_cell? _ _ (hc k hk))).trans (hc k hk)⟩
theorem bcell {W w1 : World} (hb : Below W.heap.size W w1) : (∀ b o, b < W.heap.size → w1.cell? ⟨b, o, none⟩ = W.cell? ⟨b, o, none⟩) ∧ (∀ b o, b < W.heap.size → w1.frozen? ⟨b, o, none⟩ = W.frozen? ⟨b, o, none⟩) :=
  ⟨fun b o h => hb.cell (p := ⟨b, o, none⟩) h, fun b o h => hb.frozen (p := ⟨b, o, none⟩) h⟩

/-! ### vouchedQuorum -/
def sites (S : Nat → ByteArray) (s : ByteArray) (len : Nat) : Int := if has S s len then len else len + 1
def need (n q : Int) : Int := if 1 < n - q then n - q else 1
theorem sites_yes {S : Nat → ByteArray} {s : ByteArray} {len : Nat} (h : has S s len = true) : sites S s len = len := by simp [sites, h]
theorem sites_no {S : Nat → ByteArray} {s : ByteArray} {len : Nat} (h : has S s len = false) : sites S s len = len + 1 := by simp [sites, h]
theorem need_yes {n q : Int} (h : 1 < n - q) : need n q = n - q := by simp [need, h]
theorem need_no {n q : Int} (h : n - q ≤ 1) : need n q = 1 := by unfold need; rw [if_neg (by omega)]

set_option maxHeartbeats 1000000 in
theorem quorum12 (a : Option Addr) (len cap : Nat) (S : Nat → ByteArray) (s : ByteArray) (q : Int) (w : World) (hrow : Row w a len S) (hl : len ≤ 65536) (hq : -1073741824 ≤ q) (hq2 : q ≤ 9223372036854775807) :
    Calls Trym.prog 12 #[.slice a len cap, .string s, .int .i64 q] w fun e w' => e = .returned (.agg #[.slice a len cap, .int .i64 (need (sites S s len) q), .bool true]) ∧ Below w.heap.size w w' := by
  have hr : ∀ o, Row (w.alloc o) a len S := fun o => hrow.later ((Below.refl _ _).alloc (Nat.le_refl _) _)
  clear hrow
  by_cases hh : has S s len = true
  · rw [sites_yes hh]
    by_cases h1 : 1 < (len : Int) - q
    · rw [need_yes h1]
      go_enter Trym.func12, Trym.ntmps12
      go_wp2_with fail
      refine (contains13 a len cap S s _ (hr _) (by omega)).mono ?_
      rintro e w1 ⟨rfl, rfl⟩
      rw [hh]
      clear hh hr
      go_wp2
      exact bodyPost_ret (v := .agg #[.slice a len cap, .int .i64 (len - q), .bool true]) (by simp [results, Trym.results12, go_sem]) rfl ⟨rfl, (Below.refl _ _).alloc (Nat.le_refl _) _⟩
    · rw [need_no (by omega)]
      go_enter Trym.func12, Trym.ntmps12
      go_wp2_with fail
      refine (contains13 a len cap S s _ (hr _) (by omega)).mono ?_
      rintro e w1 ⟨rfl, rfl⟩
      rw [hh]
      clear hh hr
      go_wp2
      exact bodyPost_ret (v := .agg #[.slice a len cap, .int .i64 1, .bool true]) (by simp [results, Trym.results12, go_sem]) rfl ⟨rfl, (Below.refl _ _).alloc (Nat.le_refl _) _⟩
  · have hh' : has S s len = false := by simpa using hh
    clear hh
    rw [sites_no hh']
    by_cases h1 : 1 < (len : Int) + 1 - q
    · rw [need_yes h1]
      go_enter Trym.func12, Trym.ntmps12
      go_wp2_with fail
      refine (contains13 a len cap S s _ (hr _) (by omega)).mono ?_
      rintro e w1 ⟨rfl, rfl⟩
      rw [hh']
      clear hh' hr
      go_wp2
      exact bodyPost_ret (v := .agg #[.slice a len cap, .int .i64 (len + 1 - q), .bool true]) (by simp [results, Trym.results12, go_sem]) rfl ⟨rfl, (Below.refl _ _).alloc (Nat.le_refl _) _⟩
    · rw [need_no (by omega)]
      go_enter Trym.func12, Trym.ntmps12
      go_wp2_with fail
      refine (contains13 a len cap S s _ (hr _) (by omega)).mono ?_
      rintro e w1 ⟨rfl, rfl⟩
      rw [hh']
      clear hh' hr
      go_wp2
      exact bodyPost_ret (v := .agg #[.slice a len cap, .int .i64 1, .bool true]) (by simp [results, Trym.results12, go_sem]) rfl ⟨rfl, (Below.refl _ _).alloc (Nat.le_refl _) _⟩

set_option maxHeartbeats 1000000 in
theorem zz8 (a : Option Addr) (len cap : Nat) (S : Nat → ByteArray) (s : ByteArray) (q : Int) (w : World) (hrow : Row w a len S) (hl : len ≤ 65536) (hq : -1073741824 ≤ q) (hq2 : q ≤ 9223372036854775807) :
    Calls Trym.prog 8 #[.slice a len cap, .string s, .int .i64 q] w fun e w' => e = .returned (.tuple #[.slice a len cap, .int .i64 (need (sites S s len) q), .bool true]) ∧ Below w.heap.size w w' := by
  generalize hn : need (sites S s len) q = n
  have HN : Hid (need (sites S s len) q = n) := hn
  clear hn
  go_enter Trym.func8, Trym.ntmps8
  go_wp2_with fail
  refine (quorum12 a len cap S s q _ hrow hl hq hq2).mono ?_
  rintro e w1 ⟨rfl, hb⟩
  rw [HN.out]
  go_wp2
  go_region
  all_goals go_wp2
  all_goals go_ret3
  all_goals exact ⟨rfl, (hb.alloc hb.size _).drew⟩

/-! ### commitB1Clone -/
theorem info9 : (Trym.prog.info? 9).map (fun i => (i.zero, i.size, i.bytes)) = some (some (.string ByteArray.empty), 1, 16) := by kernel_rfl
theorem mk (n : Nat) (hb : n ≤ 65536) (w : World) :
    (Instr.makeSlice 22 (.int .i64 n) (.int .i64 n)).run Trym.prog w = .ok (.slice (some ⟨w.heap.size, 0, none⟩) n n) (w.alloc (.cells (madeCells #[.string ByteArray.empty] n) 9)) := by
  obtain ⟨i, hi, hz0, hz1, hz2⟩ := info_parts info9
  have h := run_make (P := Trym.prog) w 22 9 i _ Trym.underlying22 hi hz0 .i64 .i64 n n (by omega) (by omega) (by rw [hz2]; omega) (by omega)
  rw [hz1] at h
  simpa [Value.cells] using h
theorem made_at (z : Value) (n k : Nat) (h : k < n) : (madeCells #[z] n)[k]? = some z := by
  rw [← Array.getElem?_toList, toList_madeCells_one, List.getElem?_replicate, if_pos h]
/-- The copy behind k rounds. -/
structure Cp (w wr : World) (g k len : Nat) (S : Nat → ByteArray) : Prop where
  below : Below w.heap.size w wr
  done : ∀ j, j < k → wr.cell? ⟨g, j, none⟩ = some (.string (S j))
  there : ∀ j, j < len → ∃ v, wr.cell? ⟨g, j, none⟩ = some v
  free : ∀ j, wr.frozen? ⟨g, j, none⟩ = false
theorem Cp.start (w : World) (len : Nat) (S : Nat → ByteArray) : Cp w (w.alloc (.cells (madeCells #[.string ByteArray.empty] len) 9)) w.heap.size 0 len S :=
  ⟨(Below.refl _ _).alloc (Nat.le_refl _) _, fun _ hj => absurd hj (Nat.not_lt_zero _), fun j hj => ⟨_, (World.cell?_alloc_at (w := w) _ _ _ j rfl).trans (made_at _ len j hj)⟩, fun j => World.frozen?_alloc_at (w := w) _ _ _ j rfl⟩
theorem Cp.step {w wr : World} {k len : Nat} {S : Nat → ByteArray} (h : Cp w wr w.heap.size k len S) (hk : k < len) : Cp w (wr.setCell ⟨w.heap.size, k, none⟩ (.string (S k))) w.heap.size (k + 1) len S := by
  refine ⟨h.below.setCell (Nat.le_refl _) _, fun j hj => ?_, fun j hj => ?_, fun j => (World.frozen?_setCell _ _ _ _).trans (h.free j)⟩
  · by_cases e : j = k
    · subst e
      obtain ⟨v, hv⟩ := h.there j hk
      exact World.cell?_setCell_same _ _ _ hv
    · rw [World.cell?_setCell_other _ _ _ _ (by intro c; injection c with c1 c2; omega)]
      exact h.done j (by omega)
  · by_cases e : j = k
    · subst e
      obtain ⟨v, hv⟩ := h.there j hk
      exact ⟨_, World.cell?_setCell_same _ _ _ hv⟩
    · rw [World.cell?_setCell_other _ _ _ _ (by intro c; injection c with c1 c2; omega)]
      exact h.there j hj

def Copied (e : Ending) (w w' : World) (len : Nat) (S : Nat → ByteArray) : Prop :=
  ∃ a, e = .returned (.slice a len len) ∧ Row w' a len S ∧ Below w.heap.size w w'
set_option maxHeartbeats 1000000 in
theorem clone7 (a : Option Addr) (len cap : Nat) (S : Nat → ByteArray) (w : World) (hrow : Row w a len S) (hnil : a = none → len = 0 ∧ cap = 0) (hl : len ≤ 65536) :
    Calls Trym.prog 7 #[.slice a len cap] w fun e w' => Copied e w w' len S := by
  have q22 : ∀ (w : World) (a : Option Addr) (n c n' c' : Nat), (binOp .eql 22 (.slice a n c) (.slice none n' c')).run Trym.prog w = .ok (.bool a.isNone) w := fun w a n c n' c' => Lib.run_eql_slice_nil w _ _ a n c n' c' Trym.underlying22
  cases a with
  | none =>
    obtain ⟨rfl, rfl⟩ := hnil rfl
    go_enter Trym.func7, Trym.ntmps7
    go_wp2
    go_ret
    exact ⟨none, rfl, .inl rfl, Below.refl _ _⟩
  | some ad =>
    have km := mk len hl
    rcases hrow with rfl | ⟨b, off, e, hcell⟩
    · clear hnil km
      have km0 : ∀ w, (Instr.makeSlice 22 (.int .i64 0) (.int .i64 0)).run Trym.prog w = .ok (.slice (some ⟨w.heap.size, 0, none⟩) 0 0) (w.alloc (.cells (madeCells #[.string ByteArray.empty] 0) 9)) := fun w => mk 0 (by omega) w
      go_enter Trym.func7, Trym.ntmps7
      go_wp2
      go_loop [4] (fun i => i = .int .i64 0) (fun _ => 0)
      case atStart => exact rfl
      case round =>
        obtain rfl := hrel
        go_wp2
        go_ret
        exact ⟨_, rfl, .inl rfl, (Below.refl _ _).alloc (Nat.le_refl _) _⟩
    · injection e with e
      subst e
      clear hnil
      go_enter Trym.func7, Trym.ntmps7
      go_wp2
      go_loopw [4] (fun i wr => ∃ k : Nat, k ≤ len ∧ i = .int .i64 k ∧ Cp w wr w.heap.size k len S) (fun i _ => len - (intOf i).toNat)
      case atStart => exact ⟨0, Nat.zero_le _, rfl, Cp.start w len S⟩
      case round =>
        obtain ⟨k, hk, rfl, hcp⟩ := hrel
        by_cases hlt : k < len
        · have hb : b < w.heap.size := World.block_lt_of_cell? _ _ (hcell k hlt)
          have hc : wr.cell? ⟨b, off + k, none⟩ = some (.string (S k)) := (hcp.below.cell hb).trans (hcell k hlt)
          obtain ⟨v, hv⟩ := hcp.there k hlt
          have hf := hcp.free k
          have hst := hcp.step hlt
          clear hcell hcp hb km q22
          go_wp2
          go_roundw
          case rel => exact ⟨k + 1, by omega, by go_num, hst⟩
          case measure => simp [intOf]; omega
        · obtain rfl : k = len := by omega
          go_wp2
          go_ret
          exact ⟨_, rfl, .inr ⟨_, _, rfl, fun j hj => by rw [Nat.zero_add]; exact hcp.done j hj⟩, hcp.below⟩
end Go.Proofs.Qxb6600265aMods.Vq
