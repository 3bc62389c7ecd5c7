import Derived.Test.Qxb6600514aModsScan
namespace Go.Proofs.Qxb6600514aMods.Sc
open Go.ChangeShapes Go.WideShapes Go.ChangeAt Go.RowKit

/-- What ZZScan hands back. -/
def ZScanned (Z : Nat → Int) (D K : Int) (len : Nat) (e : Ending) (w w' : World) : Prop :=
  Below w.heap.size w w' ∧ ((∃ s, run Z D K len = .inl s ∧ e = .returned (.tuple #[.agg #[.int .i64 D, .int .i64 K, .int .i64 s.d, .int .i64 s.ks, .bool s.ins, .bool s.esc], .int .u8 0, .bool false])) ∨
    (∃ l s, run Z D K len = .inr l ∧ e = .returned (.tuple #[.agg #[.int .i64 D, .int .i64 K, .int .i64 (St.d s), .int .i64 s.ks, .bool s.ins, .bool s.esc], .int .u8 l, .bool true])))

theorem fld_new (W : World) (D K : Int) (B : Nat) (h : B = W.heap.size) : Fld (W.alloc (.cells #[.int .i64 D, .int .i64 K, .int .i64 0, .int .i64 0, .bool false, .bool false] 39)) B D K ⟨0, 0, false, false⟩ := by
  subst h
  exact ⟨World.cell?_alloc_at (w := W) _ _ _ 0 rfl, World.cell?_alloc_at (w := W) _ _ _ 1 rfl, World.cell?_alloc_at (w := W) _ _ _ 2 rfl, World.cell?_alloc_at (w := W) _ _ _ 3 rfl, World.cell?_alloc_at (w := W) _ _ _ 4 rfl, World.cell?_alloc_at (w := W) _ _ _ 5 rfl, fun j => World.frozen?_alloc_at (w := W) _ _ _ j rfl⟩
theorem row_below {w w' : World} {a : Option Addr} {len B : Nat} {Z : Nat → Int} (h : Row w a len Z) (hb : Below w.heap.size w w') (hB : w.heap.size ≤ B) :
    len = 0 ∨ ∃ b off, b < B ∧ a = some ⟨b, off, none⟩ ∧ ∀ k, k < len → w'.cell? ⟨b, off + k, none⟩ = some (.int .u8 (Z k)) := by
  by_cases h0 : len = 0
  · exact .inl h0
  · rcases h with h | ⟨b, off, e, hc⟩
    · exact .inl h
    · have hlt : b < w.heap.size := World.block_lt_of_cell? _ _ (hc 0 (by omega))
      exact .inr ⟨b, off, by omega, e, fun k hk => (hb.cell hlt).trans (hc k hk)⟩

set_option maxRecDepth 100000 in
set_option maxHeartbeats 2000000 in
theorem zz15 (D K : Int) (a : Option Addr) (len cap : Nat) (Z : Nat → Int) (w : World) (hrow : Row w a len Z) (hl : len ≤ 1048576) (hZ : ∀ k, k < len → 0 ≤ Z k ∧ Z k ≤ 255) :
    Calls Trym.prog 15 #[.agg #[.int .i64 D, .int .i64 K, .int .i64 0, .int .i64 0, .bool false, .bool false], .slice a len cap] w fun e w' => ZScanned Z D K len e w w' := by
  go_enter Trym.func15, Trym.ntmps15
  go_wp2_with fail
  refine (scan21 D K (w.heap.size + 1 + 1) a len cap Z _ (row_below hrow ((((Below.refl _ _).alloc (Nat.le_refl _) _).alloc (by simp) _).alloc (by simp; omega) _) (by omega)) hl hZ (fld_new _ D K _ (by simp))).mono ?_
  rintro e w1 ⟨hb, hs⟩
  obtain ⟨hc, hf⟩ := bcell hb
  have hz : w.heap.size + 1 + 1 < w1.heap.size := by have := hb.size; simp at this; omega
  have hbel : Below w.heap.size w w1 := ((((Below.refl _ _).alloc (Nat.le_refl _) _).alloc (by simp) _).alloc (by simp; omega) _).trans (hb.mono (by omega))
  clear hrow hZ
  rcases hs with ⟨s, hr, rfl, hF⟩ | ⟨l, s, hr, rfl, hF⟩
  all_goals
    obtain ⟨d, ks, ins, esc⟩ := s
    obtain ⟨c0, c1, c2, c3, c4, c5, fr⟩ := hF
    have HR := hr
    simp only at c2 c3 c4 c5
    have HR' : Hid (run Z D K len = _) := hr
    clear hr HR fr hb
    go_wp2
  · refine bodyPost_ret (v := .tuple #[.agg #[.int .i64 D, .int .i64 K, .int .i64 d, .int .i64 ks, .bool ins, .bool esc], .int .u8 0, .bool false]) (by simp [results, Trym.results15, go_sem, hc]) rfl ⟨?_, .inl ⟨_, HR'.out, rfl⟩⟩
    exact (((((hbel.setCell (Nat.le_succ _) _).setCell (Nat.le_succ _) _).setCell (Nat.le_succ _) _).setCell (Nat.le_succ _) _).setCell (Nat.le_succ _) _).setCell (Nat.le_succ _) _
  · refine bodyPost_ret (v := .tuple #[.agg #[.int .i64 D, .int .i64 K, .int .i64 d, .int .i64 ks, .bool ins, .bool esc], .int .u8 l, .bool true]) (by simp [results, Trym.results15, go_sem, hc]) rfl ⟨?_, .inr ⟨_, ⟨d, ks, ins, esc⟩, HR'.out, rfl⟩⟩
    exact (((((hbel.setCell (Nat.le_succ _) _).setCell (Nat.le_succ _) _).setCell (Nat.le_succ _) _).setCell (Nat.le_succ _) _).setCell (Nat.le_succ _) _).setCell (Nat.le_succ _) _
end Go.Proofs.Qxb6600514aMods.Sc
