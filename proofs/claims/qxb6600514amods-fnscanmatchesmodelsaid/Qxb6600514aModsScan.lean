import Derived.Test.Qxb6600514aModsModel
import Derived.Deep.QuietTactic
import Derived.BigQuiet
namespace Go.Proofs.Qxb6600514aMods.Sc
open Go.ChangeShapes Go.WideShapes Go.ChangeAt Go.RowKit

/-- The six cells of the state that scan walks over. -/
structure Fld (w : World) (B : Nat) (D K : Int) (s : St) : Prop where
  c0 : w.cell? ⟨B, 0, none⟩ = some (.int .i64 D)
  c1 : w.cell? ⟨B, 1, none⟩ = some (.int .i64 K)
  c2 : w.cell? ⟨B, 2, none⟩ = some (.int .i64 s.d)
  c3 : w.cell? ⟨B, 3, none⟩ = some (.int .i64 s.ks)
  c4 : w.cell? ⟨B, 4, none⟩ = some (.bool s.ins)
  c5 : w.cell? ⟨B, 5, none⟩ = some (.bool s.esc)
  fr : ∀ j, w.frozen? ⟨B, j, none⟩ = false
theorem other {w : World} {B i j : Nat} {u v : Value} (h : w.cell? ⟨B, j, none⟩ = some v) (hne : i ≠ j) : (w.setCell ⟨B, i, none⟩ u).cell? ⟨B, j, none⟩ = some v := by
  rw [World.cell?_setCell_other _ _ _ _ (by intro c; injection c with c1 c2; omega)]
  exact h
section
variable {w : World} {B : Nat} {D K : Int} {d ks : Int} {ins esc : Bool}
theorem Fld.set2 (h : Fld w B D K ⟨d, ks, ins, esc⟩) (x y : Int) (e : x = y) : Fld (w.setCell ⟨B, 2, none⟩ (.int .i64 x)) B D K ⟨y, ks, ins, esc⟩ := by
  subst e
  exact ⟨other h.c0 (by decide), other h.c1 (by decide), World.cell?_setCell_same _ _ _ h.c2, other h.c3 (by decide), other h.c4 (by decide), other h.c5 (by decide), fun j => (World.frozen?_setCell _ _ _ _).trans (h.fr j)⟩
theorem Fld.set3 (h : Fld w B D K ⟨d, ks, ins, esc⟩) (x : Int) : Fld (w.setCell ⟨B, 3, none⟩ (.int .i64 x)) B D K ⟨d, x, ins, esc⟩ :=
  ⟨other h.c0 (by decide), other h.c1 (by decide), other h.c2 (by decide), World.cell?_setCell_same _ _ _ h.c3, other h.c4 (by decide), other h.c5 (by decide), fun j => (World.frozen?_setCell _ _ _ _).trans (h.fr j)⟩
theorem Fld.set4 (h : Fld w B D K ⟨d, ks, ins, esc⟩) (x : Bool) : Fld (w.setCell ⟨B, 4, none⟩ (.bool x)) B D K ⟨d, ks, x, esc⟩ :=
  ⟨other h.c0 (by decide), other h.c1 (by decide), other h.c2 (by decide), other h.c3 (by decide), World.cell?_setCell_same _ _ _ h.c4, other h.c5 (by decide), fun j => (World.frozen?_setCell _ _ _ _).trans (h.fr j)⟩
theorem Fld.set5 (h : Fld w B D K ⟨d, ks, ins, esc⟩) (x : Bool) : Fld (w.setCell ⟨B, 5, none⟩ (.bool x)) B D K ⟨d, ks, ins, x⟩ :=
  ⟨other h.c0 (by decide), other h.c1 (by decide), other h.c2 (by decide), other h.c3 (by decide), other h.c4 (by decide), World.cell?_setCell_same _ _ _ h.c5, fun j => (World.frozen?_setCell _ _ _ _).trans (h.fr j)⟩
theorem Fld.drewN {s : St} (h : Fld w B D K s) (n : Nat) : Fld (w.drewN n) B D K s :=
  ⟨by simpa using h.c0, by simpa using h.c1, by simpa using h.c2, by simpa using h.c3, by simpa using h.c4, by simpa using h.c5, fun j => by simpa using h.fr j⟩
end
theorem bel_drewN {B : Nat} {a w : World} (h : Below B a w) (n : Nat) : Below B a (w.drewN n) := h.trans ⟨rfl, rfl, rfl, Nat.le_refl _, fun _ _ => rfl⟩

theorem past_yes {b n : Int} (h : 0 < b ∧ b < n) (w : World) : Calls Trym.prog 24 #[.int .i64 b, .int .i64 n] w fun e w' => e = .returned (.bool true) ∧ w' = w := by
  have h1 : pastB b n = true := by simp [pastB, h]
  have := past24 b n w
  rw [h1] at this
  exact this
theorem past_no {b n : Int} (h : ¬ (0 < b ∧ b < n)) (w : World) : Calls Trym.prog 24 #[.int .i64 b, .int .i64 n] w fun e w' => e = .returned (.bool false) ∧ w' = w := by
  have h1 : pastB b n = false := by simp only [pastB, decide_eq_false_iff_not]; exact h
  have := past24 b n w
  rw [h1] at this
  exact this

/-- What scan leaves. -/
def Scanned (Z : Nat → Int) (D K : Int) (len B : Nat) (e : Ending) (w w' : World) : Prop :=
  Below B w w' ∧ ((∃ s, run Z D K len = .inl s ∧ e = .returned (.tuple #[.int .u8 0, .bool false]) ∧ Fld w' B D K s) ∨
    (∃ l s, run Z D K len = .inr l ∧ e = .returned (.tuple #[.int .u8 l, .bool true]) ∧ Fld w' B D K s))

set_option maxRecDepth 100000 in
set_option maxHeartbeats 4000000 in
theorem scan21 (D K : Int) (B : Nat) (a : Option Addr) (len cap : Nat) (Z : Nat → Int) (w : World) (hrow : len = 0 ∨ ∃ b off, b < B ∧ a = some ⟨b, off, none⟩ ∧ ∀ k, k < len → w.cell? ⟨b, off + k, none⟩ = some (.int .u8 (Z k))) (hl : len ≤ 1048576) (hZ : ∀ k, k < len → 0 ≤ Z k ∧ Z k ≤ 255)
    (hF : Fld w B D K ⟨0, 0, false, false⟩) :
    Calls Trym.prog 21 #[.pointer (some ⟨B, 0, none⟩), .slice a len cap] w fun e w' => Scanned Z D K len B e w w' := by
  rcases hrow with rfl | ⟨b, off, hbB, rfl, hcell⟩
  · go_enter Trym.func21, Trym.ntmps21
    go_wp2
    go_loop [10] (fun vi => vi = .int .i64 0) (fun _ => 0)
    case atStart => exact rfl
    case round =>
      obtain rfl := hrel
      go_wp2
      go_ret2
      exact ⟨Below.refl _ _, .inl ⟨_, rfl, rfl, hF⟩⟩
  · go_enter Trym.func21, Trym.ntmps21
    go_wp2
    go_loopw [10] (fun vi wr => ∃ (k : Nat) (s : St), k ≤ len ∧ vi = .int .i64 k ∧ Hid (run Z D K k = .inl s) ∧ Fld wr B D K s ∧ Below B w wr) (fun vi _ => len - (intOf vi).toNat)
    case atStart => exact ⟨0, ⟨0, 0, false, false⟩, Nat.zero_le _, rfl, rfl, hF, Below.refl _ _⟩
    case round =>
      obtain ⟨k, ⟨d, ks, ins, esc⟩, hk, rfl, HR, hf, hbel⟩ := hrel
      obtain ⟨⟨i1, i2⟩, ⟨i3, i4⟩, i5⟩ := run_inv Z D K k _ HR.out
      simp only at i1 i2 i3 i4 i5
      have HI : Hid (esc = (ins && decide (backs Z k % 2 = 1))) := i5
      obtain ⟨c0, c1, c2, c3, c4, c5, fr⟩ := hf
      have hf : Fld wr B D K ⟨d, ks, ins, esc⟩ := ⟨c0, c1, c2, c3, c4, c5, fr⟩
      simp only at c2 c3 c4 c5
      have f2 := fr 2
      have f3 := fr 3
      have f4 := fr 4
      have f5 := fr 5
      clear i5 fr hF
      by_cases hlt : k < len
      · have hc : wr.cell? ⟨b, off + k, none⟩ = some (.int .u8 (Z k)) := (hbel.cell hbB).trans (hcell k hlt)
        obtain ⟨z1, z2⟩ := hZ k hlt
        clear hcell hZ
        cases hesc : esc with
        | true =>
          subst hesc
          have HN : Hid (run Z D K (k + 1) = .inl ⟨d, ks, ins, false⟩) := s_esc HR.out
          clear HR HI
          go_wp2
          go_roundw
          case rel => exact ⟨k + 1, ⟨d, ks, ins, false⟩, by omega, by go_num, HN, hf.set5 false, hbel.setCell (Nat.le_refl _) _⟩
          case measure => simp [intOf]; omega
        | false =>
          subst hesc
          cases hins : ins with
          | true =>
            subst hins
            by_cases c92 : Z k = 92
            · rw [c92] at hc
              have HN : Hid (run Z D K (k + 1) = .inl ⟨d, ks, true, true⟩) := s_back HR.out c92
              clear HR HI c92
              go_wp2
              go_roundw
              case rel => exact ⟨k + 1, ⟨d, ks, true, true⟩, by omega, by go_num, HN, hf.set5 true, hbel.setCell (Nat.le_refl _) _⟩
              case measure => simp [intOf]; omega
            · by_cases c34 : Z k = 34
              · rw [c34] at hc
                have HN : Hid (run Z D K (k + 1) = .inl ⟨d, ks, false, false⟩) := s_quote HR.out c34
                clear HR HI c34 c92
                go_wp2
                go_roundw
                case rel => exact ⟨k + 1, ⟨d, ks, false, false⟩, by omega, by go_num, HN, hf.set4 false, hbel.setCell (Nat.le_refl _) _⟩
                case measure => simp [intOf]; omega
              · have HN : Hid (run Z D K (k + 1) = .inl ⟨d, ks, true, false⟩) := s_in HR.out c92 c34
                have q1 : (Z k == 92) = false := by simp [c92]
                have q2 : (Z k == 34) = false := by simp [c34]
                clear HR HI c34 c92
                go_wp2
                go_roundw
                case rel => exact ⟨k + 1, ⟨d, ks, true, false⟩, by omega, by go_num, HN, hf, hbel⟩
                case measure => simp [intOf]; omega
          | false =>
            subst hins
            by_cases c34 : Z k = 34
            · rw [c34] at hc
              have HN : Hid (run Z D K (k + 1) = .inl ⟨d, ks, true, false⟩) := s_quote HR.out c34
              clear HR HI c34
              go_wp2
              go_roundw
              case rel => exact ⟨k + 1, ⟨d, ks, true, false⟩, by omega, by go_num, HN, hf.set4 true, hbel.setCell (Nat.le_refl _) _⟩
              case measure => simp [intOf]; omega
            · by_cases cup : Z k = 91 ∨ Z k = 123
              · by_cases ht : 0 < D ∧ D < d + 1
                · have hp : Hid (0 < D ∧ D < d + 1) := ht
                  have HN : Hid (run Z D K len = .inr 5) := run_trip (s_up_trip HR.out cup ht) len (by omega)
                  clear HR HI c34 ht
                  rcases cup with cup | cup
                  all_goals
                    rw [cup] at hc
                    clear cup
                    go_wp2_with fail
                    go_quiet ((go_at_call 24; first | exact Calls.quiet_of_same (past_yes hp.out _) | exact Calls.quiet_of_same (past_no hn.out _)))
                    go_wp2
                    go_ret2
                    exact ⟨bel_drewN (hbel.setCell (Nat.le_refl _) _) nq, .inr ⟨5, ⟨d + 1, ks, false, false⟩, HN.out, rfl, (hf.set2 (d + 1) (d + 1) rfl).drewN nq⟩⟩
                · have hn : Hid (¬ (0 < D ∧ D < d + 1)) := ht
                  have HN : Hid (run Z D K (k + 1) = .inl ⟨d + 1, ks, false, false⟩) := s_up HR.out cup ht
                  clear HR HI c34 ht
                  rcases cup with cup | cup
                  all_goals
                    rw [cup] at hc
                    clear cup
                    go_wp2_with fail
                    go_quiet ((go_at_call 24; first | exact Calls.quiet_of_same (past_yes hp.out _) | exact Calls.quiet_of_same (past_no hn.out _)))
                    go_wp2
                    go_roundw
                    case rel => exact ⟨k + 1, ⟨d + 1, ks, false, false⟩, by omega, by go_num, HN, (hf.set2 (d + 1) (d + 1) rfl).drewN nq, bel_drewN (hbel.setCell (Nat.le_refl _) _) nq⟩
                    case measure => simp [intOf]; omega
              · have q91 : (Z k == 91) = false := by simp; omega
                have q123 : (Z k == 123) = false := by simp; omega
                have q34 : (Z k == 34) = false := by simp [c34]
                by_cases cdn : Z k = 93 ∨ Z k = 125
                · have HN : Hid (run Z D K (k + 1) = .inl ⟨if 0 < d - 1 then d - 1 else 0, ks, false, false⟩) := s_down HR.out cdn
                  clear HR HI c34 cup q91 q123 q34
                  by_cases t1 : d = 0
                  · have e0 : (if 0 < d - 1 then d - 1 else 0) = 0 := by rw [if_neg (by omega)]
                    rw [e0] at HN
                    clear e0
                    subst t1
                    rcases cdn with cup | cup
                    all_goals
                      rw [cup] at hc
                      clear cup
                      go_wp2
                      go_roundw
                      case rel => exact ⟨k + 1, ⟨0, ks, false, false⟩, by omega, by go_num, HN, hf.set2 _ _ (by omega), hbel.setCell (Nat.le_refl _) _⟩
                      case measure => simp [intOf]; omega
                  · have e0 : (if 0 < d - 1 then d - 1 else 0) = d - 1 := by split <;> omega
                    rw [e0] at HN
                    have t2 : 1 ≤ d := by omega
                    clear e0 t1
                    rcases cdn with cup | cup
                    all_goals
                      rw [cup] at hc
                      clear cup
                      go_wp2
                      go_roundw
                      case rel => exact ⟨k + 1, ⟨d - 1, ks, false, false⟩, by omega, by go_num, HN, hf.set2 _ _ (by omega), hbel.setCell (Nat.le_refl _) _⟩
                      case measure => simp [intOf]; omega
                · have q93 : (Z k == 93) = false := by simp; omega
                  have q125 : (Z k == 125) = false := by simp; omega
                  by_cases ck : Z k = 58
                  · by_cases ht : 0 < K ∧ K < ks + 1
                    · have hp : Hid (0 < K ∧ K < ks + 1) := ht
                      have HN : Hid (run Z D K len = .inr 6) := run_trip (s_key_trip HR.out ck ht) len (by omega)
                      clear HR HI c34 cup cdn ht q91 q123 q34 q93 q125
                      rw [ck] at hc
                      clear ck
                      go_wp2_with fail
                      go_quiet ((go_at_call 24; first | exact Calls.quiet_of_same (past_yes hp.out _) | exact Calls.quiet_of_same (past_no hn.out _)))
                      go_wp2
                      go_ret2
                      exact ⟨bel_drewN (hbel.setCell (Nat.le_refl _) _) nq, .inr ⟨6, ⟨d, ks + 1, false, false⟩, HN.out, rfl, (hf.set3 (ks + 1)).drewN nq⟩⟩
                    · have hn : Hid (¬ (0 < K ∧ K < ks + 1)) := ht
                      have HN : Hid (run Z D K (k + 1) = .inl ⟨d, ks + 1, false, false⟩) := s_key HR.out ck ht
                      clear HR HI c34 cup cdn ht q91 q123 q34 q93 q125
                      rw [ck] at hc
                      clear ck
                      go_wp2_with fail
                      go_quiet ((go_at_call 24; first | exact Calls.quiet_of_same (past_yes hp.out _) | exact Calls.quiet_of_same (past_no hn.out _)))
                      go_wp2
                      go_roundw
                      case rel => exact ⟨k + 1, ⟨d, ks + 1, false, false⟩, by omega, by go_num, HN, (hf.set3 (ks + 1)).drewN nq, bel_drewN (hbel.setCell (Nat.le_refl _) _) nq⟩
                      case measure => simp [intOf]; omega
                  · have HN : Hid (run Z D K (k + 1) = .inl ⟨d, ks, false, false⟩) := s_other HR.out c34 (by omega) (by omega) (by omega) (by omega) ck
                    have q58 : (Z k == 58) = false := by simp [ck]
                    clear HR HI c34 cup cdn ck
                    go_wp2
                    go_roundw
                    case rel => exact ⟨k + 1, ⟨d, ks, false, false⟩, by omega, by go_num, HN, hf, hbel⟩
                    case measure => simp [intOf]; omega
      · obtain rfl : k = len := by omega
        clear HI hcell hZ
        go_wp2
        go_ret2
        exact ⟨hbel, .inl ⟨_, HR.out, rfl, hf⟩⟩
end Go.Proofs.Qxb6600514aMods.Sc
