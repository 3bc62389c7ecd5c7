import Derived.Test.Qxb6600098aModsRows
import Derived.WalkKit
import Derived.ProofKit
namespace Go.Proofs.Qxb6600098aMods.Idx
open Go.ChangeShapes Go.WideShapes Go.ChangeAt Go.RowKit
theorem info26 : (Trym.prog.info? 26).map (fun i => (i.zero, i.size, i.bytes)) = some (some (.int .u64 0), 1, 8) := by kernel_rfl
theorem mk (l c : Int) (L C : Nat) (hl : l = L) (hc : c = C) (hlc : L ≤ C) (hb : C ≤ 1000000) (w : World) :
    (Instr.makeSlice 22 (.int .i64 l) (.int .i64 c)).run Trym.prog w = .ok (.slice (some ⟨w.heap.size, 0, none⟩) L C) (w.alloc (.cells (madeCells #[.int .u64 0] C) 26)) := by
  subst hl hc
  obtain ⟨i, hi, hz0, hz1, hz2⟩ := info_parts info26
  have h := run_make (P := Trym.prog) w 22 26 i _ Trym.underlying22 hi hz0 .i64 .i64 L C (by omega) (by omega) (by rw [hz2]; omega) (by omega)
  rw [hz1] at h
  simpa [Value.cells] using h
theorem made_at (n k : Nat) (h : k < n) : (madeCells #[.int .u64 0] n)[k]? = some (Value.int .u64 0) := by
  rw [← Array.getElem?_toList, toList_madeCells_one, List.getElem?_replicate, if_pos h]
/-- The bloom row behind the call: N zero words at block b1. -/
def Zeros (w : World) (b N : Nat) : Prop := b < w.heap.size ∧ ∀ k, k < N → w.cell? ⟨b, k, none⟩ = some (.int .u64 0)
theorem Zeros.alloc {w : World} {b N : Nat} (h : Zeros w b N) (o : Obj) : Zeros (w.alloc o) b N :=
  ⟨by have := h.1; simp; omega, fun k hk => (World.cell?_alloc_past (w := w) o b k h.1).trans (h.2 k hk)⟩
theorem Zeros.setCell {w : World} {b N : Nat} (h : Zeros w b N) (p : Addr) (hp : b ≠ p.block) (u : Value) : Zeros (w.setCell p u) b N :=
  ⟨by have := h.1; simpa [World.setCell] using this, fun k hk => (World.cell?_of_block (w := w) (Below.heap_setCell w p u b hp)).trans (h.2 k hk)⟩
theorem Zeros.drew {w : World} {b N : Nat} (h : Zeros w b N) : Zeros w.drew b N := h
theorem zeros_new (w : World) (n : Nat) (b : Nat) (hb : b = w.heap.size) : Zeros (w.alloc (.cells (madeCells #[.int .u64 0] n) 26)) b n := by
  subst hb
  exact ⟨by simp, fun k hk => (World.cell?_alloc_at (w := w) _ _ _ k rfl).trans (made_at n k hk)⟩
set_option maxHeartbeats 400000 in
theorem new7 (c t l : Int) (N M : Nat) (h0 : 0 ≤ c) (h1 : c ≤ 65536) (hN : (c * 10 + 63) / 64 + 1 = N) (hM : (c + 64 - 1) / 64 = M) (w : World) :
    Calls Trym.prog 7 #[.int .i64 c, .int .i64 t, .int .i64 l] w fun e w' => ∃ b1 b2 : Nat, e = .returned (.agg #[.int .i64 c, .int .i64 t, .int .i64 l, .slice (some ⟨b1, 0, none⟩) N N, .slice (some ⟨b2, 0, none⟩) 0 M]) ∧ w.heap.size ≤ b1 ∧ Zeros w' b1 N ∧ Below w.heap.size w w' := by
  have k1 : ∀ W, (Instr.makeSlice 22 (.int .i64 ((c * 10 + 63) / 64 + 1)) (.int .i64 ((c * 10 + 63) / 64 + 1))).run Trym.prog W = .ok (.slice (some ⟨W.heap.size, 0, none⟩) N N) (W.alloc (.cells (madeCells #[.int .u64 0] N) 26)) := fun W => mk _ _ N N hN hN (by omega) (by omega) W
  have k2 : ∀ W, (Instr.makeSlice 22 (.int .i64 0) (.int .i64 ((c + 64 - 1) / 64))).run Trym.prog W = .ok (.slice (some ⟨W.heap.size, 0, none⟩) 0 M) (W.alloc (.cells (madeCells #[.int .u64 0] M) 26)) := fun W => mk _ _ 0 M rfl hM (by omega) (by omega) W
  clear hN hM
  go_enter Trym.func7, Trym.ntmps7
  go_wp2
  go_region
  all_goals go_wp2
  · refine bodyPost_ret (v := .agg #[.int .i64 c, .int .i64 t, .int .i64 l, .slice (some ⟨w.heap.size + 1, 0, none⟩) N N, .slice (some ⟨w.heap.size + 1 + 1, 0, none⟩) 0 M]) (by simp [results, Trym.results7, go_sem]) rfl ⟨_, _, rfl, by omega, ?_, ?_⟩
    · exact ((zeros_new _ _ _ (by simp)).alloc _).drew
    · exact ((((Below.refl _ _).alloc (Nat.le_refl _) _).alloc (by simp) _).alloc (by simp; omega) _).drew
  · refine bodyPost_ret (v := .agg #[.int .i64 c, .int .i64 t, .int .i64 l, .slice (some ⟨w.heap.size + 1 + 1, 0, none⟩) N N, .slice (some ⟨w.heap.size + 1, 0, none⟩) 0 M]) (by simp [results, Trym.results7, go_sem]) rfl ⟨_, _, rfl, by omega, ?_, ?_⟩
    · exact (zeros_new _ _ _ (by simp)).drew
    · exact ((((Below.refl _ _).alloc (Nat.le_refl _) _).alloc (by simp) _).alloc (by simp; omega) _).drew
theorem bcell {W w1 : World} (hb : Below W.heap.size W w1) : (∀ b o, b < W.heap.size → w1.cell? ⟨b, o, none⟩ = W.cell? ⟨b, o, none⟩) ∧ (∀ b o, b < W.heap.size → w1.frozen? ⟨b, o, none⟩ = W.frozen? ⟨b, o, none⟩) :=
  ⟨fun b o h => hb.cell (p := ⟨b, o, none⟩) h, fun b o h => hb.frozen (p := ⟨b, o, none⟩) h⟩
set_option maxHeartbeats 400000 in
theorem new6 (c t l : Int) (N M : Nat) (h0 : 0 ≤ c) (h1 : c ≤ 65536) (hN : (c * 10 + 63) / 64 + 1 = N) (hM : (c + 64 - 1) / 64 = M) (w : World) :
    Calls Trym.prog 6 #[.int .i64 c, .int .i64 t, .int .i64 l] w fun e w' => ∃ b1 b2 : Nat, e = .returned (.agg #[.int .i64 c, .int .i64 t, .int .i64 l, .slice (some ⟨b1, 0, none⟩) N N, .slice (some ⟨b2, 0, none⟩) 0 M]) ∧ w.heap.size ≤ b1 ∧ Zeros w' b1 N ∧ Below w.heap.size w w' := by
  have HN : Hid ((c * 10 + 63) / 64 + 1 = (N : Int)) := hN
  have HM : Hid ((c + 64 - 1) / 64 = (M : Int)) := hM
  clear hN hM
  go_enter Trym.func6, Trym.ntmps6
  go_wp2_with fail
  refine (new7 c t l N M h0 h1 HN.out HM.out _).mono ?_
  rintro e w1 ⟨b1, b2, rfl, hb, hz, hg⟩
  have hs : w.heap.size < w1.heap.size := by have := hg.size; simp at this; omega
  have hb' : w.heap.size < b1 := by simp at hb; omega
  clear hb
  obtain ⟨hc, hf⟩ := bcell hg
  go_wp2
  refine bodyPost_ret (v := .agg #[.int .i64 c, .int .i64 t, .int .i64 l, .slice (some ⟨b1, 0, none⟩) N N, .slice (some ⟨b2, 0, none⟩) 0 M]) (by simp [results, Trym.results6, go_sem, hc, hs]) rfl ⟨_, _, rfl, by omega, ?_, ?_⟩
  · exact (((((hz.setCell _ (Nat.ne_of_gt hb') _).setCell _ (Nat.ne_of_gt hb') _).setCell _ (Nat.ne_of_gt hb') _).setCell _ (Nat.ne_of_gt hb') _).setCell _ (Nat.ne_of_gt hb') _).alloc _
  · exact ((((((((Below.refl _ _).alloc (Nat.le_refl _) _).trans (hg.mono (by simp))).setCell (Nat.le_refl _) _).setCell (Nat.le_refl _) _).setCell (Nat.le_refl _) _).setCell (Nat.le_refl _) _).setCell (Nat.le_refl _) _).alloc (by simp [World.setCell]; omega) _
end Go.Proofs.Qxb6600098aMods.Idx
