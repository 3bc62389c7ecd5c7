import Derived.Test.Qxb6600901aModsOrdered
import Derived.Deep.QuietTactic
import Derived.BigQuiet
import Derived.Deep.RegionWith
namespace Go.Proofs.Qxb6600901aMods.Od
open Go.ChangeShapes Go.WideShapes Go.ChangeAt Go.RowKit Go.Maps
open Go.ChangeMaps Go.WideMaps Go.WideElems

theorem Row.pre {w : World} {a : Option Addr} {m k : Nat} {S : Nat → ByteArray} (h : Row w a m S) (hk : k ≤ m) : Row w a k S := by
  rcases h with h | ⟨b, off, e, hc⟩
  · exact .inl (by omega)
  · exact .inr ⟨b, off, e, fun j hj => hc j (by omega)⟩
theorem Row.drewN {w : World} {a : Option Addr} {m : Nat} {S : Nat → ByteArray} (h : Row w a m S) (q : Nat) : Row (w.drewN q) a m S := by
  rcases h with h | ⟨b, off, e, hc⟩
  · exact .inl h
  · exact .inr ⟨b, off, e, fun j hj => by simpa using hc j hj⟩
/-- What the model holds in mid-walk. -/
structure R2 (w wr : World) (v : Value) (xs : List ByteArray) : Prop where
  own : Lst wr w.heap.size v xs
  below : Below w.heap.size w wr
theorem R2.pushed {w w1 w2 : World} {v v' : Value} {xs : List ByteArray} {t : ByteArray} {o : Obj} (r : R2 w w1 v xs) (hl : Lst w2 w.heap.size v' (xs ++ [t])) (hg : (w1.alloc o).grownBy w2 v.ownBlock) : R2 w w2 v' (xs ++ [t]) := by
  have hl1 : Lst (w1.alloc o) w.heap.size v xs := r.own.alloc o
  have b2 : Below w.heap.size w (w1.alloc o) := r.below.alloc r.below.size o
  exact ⟨hl, b2.grown hg b2.size (fun k hk => (World.ownsRow.lt hl1 k hk).1)⟩
theorem R2.drewN {w wr : World} {v : Value} {xs : List ByteArray} (r : R2 w wr v xs) (q : Nat) : R2 w (wr.drewN q) v xs :=
  ⟨r.own, r.below.trans ⟨rfl, rfl, rfl, Nat.le_refl _, fun _ _ => rfl⟩⟩
theorem has_yes {a : Option Addr} {len cap : Nat} {S : Nat → ByteArray} {s : ByteArray} {w : World} (h : has S s len = true) (hrow : Row w a len S) (hl : len ≤ 4096) :
    Calls Trym.prog 15 #[.slice a len cap, .string s] w fun e w' => e = .returned (.bool true) ∧ w' = w := by
  have := has15 a len cap S s w hrow (by omega)
  rw [h] at this
  exact this
theorem has_no {a : Option Addr} {len cap : Nat} {S : Nat → ByteArray} {s : ByteArray} {w : World} (h : has S s len = false) (hrow : Row w a len S) (hl : len ≤ 4096) :
    Calls Trym.prog 15 #[.slice a len cap, .string s] w fun e w' => e = .returned (.bool false) ∧ w' = w := by
  have := has15 a len cap S s w hrow (by omega)
  rw [h] at this
  exact this

set_option maxRecDepth 100000 in
set_option maxHeartbeats 2000000 in
theorem model11 (a b : Option Addr) (n m c d : Nat) (I O : Nat → ByteArray) (w : World) (hI : Row w a n I) (hO : Row w b m O) (hn : n ≤ 4096) (hm : m ≤ 4096) (hmd : m ≤ d) :
    Calls Trym.prog 11 #[.slice a n c, .slice b m d] w fun e w' => Listed e w w' (L2 I O n m n) := by
  have km := mk0 n hn
  go_enter Trym.func11, Trym.ntmps11
  go_wp2
  have r0 : R2 w (w.alloc (.cells (madeCells #[.string ByteArray.empty] n) 9)) (.slice (some ⟨w.heap.size, 0, none⟩) 0 n) (L1 I O n 0) := ⟨Lst.made w n hn, (Below.refl _ _).alloc (Nat.le_refl _) _⟩
  go_loopw [5, 6] (fun v i wr => ∃ k : Nat, k ≤ m ∧ i = .int .i64 k ∧ R2 w wr v (L1 I O n k)) (fun _ i _ => m - (intOf i).toNat)
  case atStart => exact ⟨0, Nat.zero_le _, rfl, r0⟩
  case round =>
    obtain ⟨k, hk, rfl, r⟩ := hrel
    clear r0 km
    by_cases hlt : k < m
    · obtain ⟨ob, off, rfl, hc0⟩ := hO.at hlt
      have hc : wr.cell? ⟨ob, off + k, none⟩ = some (.string (O k)) := (r.below.cell (World.block_lt_of_cell? _ _ hc0)).trans hc0
      have hIr : Row wr a n I := hI.later r.below
      have hOr : Row wr (some ⟨ob, off, none⟩) k O := (hO.later r.below).pre (by omega)
      have hle := L1_le I O n k
      clear hc0
      have hkd : k ≤ d := by omega
      by_cases h1 : has I (O k) n = true
      · by_cases h2 : has O (O k) k = true
        · have H1 : Hid (has I (O k) n = true) := h1
          have H2 : Hid (has O (O k) k = true) := h2
          have HL : Hid (L1 I O n (k + 1) = L1 I O n k) := L1_miss (by simp [Mk, h1, h2])
          clear h1 h2
          go_wp2_with fail
          go_quiet (first
            | (go_at_call_of 15 (Value.slice a n c); exact Calls.quiet_of_same (has_yes H1.out (hIr.drewN _) hn))
            | (go_at_call_of 15 (Value.slice (some (Addr.mk ob off none)) k d); exact Calls.quiet_of_same (has_yes H2.out (hOr.drewN _) (by omega))))
          go_wp2
          go_roundw
          case rel => exact ⟨k + 1, by omega, by go_num, by rw [HL.out]; exact r.drewN _⟩
          case measure => simp [intOf]; omega
        · have h2' : has O (O k) k = false := by simpa using h2
          have H1 : Hid (has I (O k) n = true) := h1
          have H2 : Hid (has O (O k) k = false) := h2'
          have HL : Hid (L1 I O n (k + 1) = L1 I O n k ++ [O k]) := L1_hit (by simp [Mk, h1, h2'])
          clear h1 h2 h2'
          go_wp2_with fail
          go_quiet (first
            | (go_at_call_of 15 (Value.slice a n c); exact Calls.quiet_of_same (has_yes H1.out (hIr.drewN _) hn))
            | (go_at_call_of 15 (Value.slice (some (Addr.mk ob off none)) k d); exact Calls.quiet_of_same (has_no H2.out (hOr.drewN _) (by omega))))
          have rq := r.drewN nq
          have hcq : (wr.drewN nq).cell? ⟨ob, off + k, none⟩ = some (.string (O k)) := by simpa using hc
          generalize wr.drewN nq = wq at rq hcq ⊢
          have hl2 := rq.own
          have hb2 := rq.below.size
          clear hc hIr hOr r
          go_wp2_with (at_builtin; refine wpList_push _ rfl _ _ rfl w.heap.size _ (L1 I O n k) rfl (hl2.alloc _) wq.heap.size (O k) rfl (by simp) (by omega) (by simp; omega) ?_)
          intro v' w3 hl3 hg3
          have r3 : R2 w w3 v' (L1 I O n (k + 1)) := by rw [HL.out]; exact rq.pushed hl3 hg3
          clear hl3 hg3 hl2 rq HL hb2 hcq
          go_wp2
          go_roundw
          case rel => exact ⟨k + 1, by omega, by go_num, r3⟩
          case measure => simp [intOf]; omega
      · have h1' : has I (O k) n = false := by simpa using h1
        have H1 : Hid (has I (O k) n = false) := h1'
        have HL : Hid (L1 I O n (k + 1) = L1 I O n k) := L1_miss (by simp [Mk, h1'])
        clear h1 h1'
        go_wp2_with fail
        go_quiet ((go_at_call_of 15 (Value.slice a n c); exact Calls.quiet_of_same (has_no H1.out (hIr.drewN _) hn)))
        go_wp2
        go_roundw
        case rel => exact ⟨k + 1, by omega, by go_num, by rw [HL.out]; exact r.drewN _⟩
        case measure => simp [intOf]; omega
    · obtain rfl : k = m := by omega
      obtain ⟨wq, rfl⟩ : ∃ wq : World, wq = wr := ⟨_, rfl⟩
      go_wp2
      go_loopw [5, 7] (fun v i wr => ∃ j : Nat, j ≤ n ∧ i = .int .i64 j ∧ R2 w wr v (L2 I O n k j)) (fun _ i _ => n - (intOf i).toNat)
      case atStart => exact ⟨0, Nat.zero_le _, rfl, r⟩
      case round =>
        obtain ⟨j, hj, rfl, r2⟩ := hrel
        clear r
        by_cases hltj : j < n
        · obtain ⟨ib, off, rfl, hc0⟩ := hI.at hltj
          have hc : wr.cell? ⟨ib, off + j, none⟩ = some (.string (I j)) := (r2.below.cell (World.block_lt_of_cell? _ _ hc0)).trans hc0
          have hOr : Row wr b k O := hO.later r2.below
          have hle := L2_le I O n k j
          have hl2 := r2.own
          have hb2 := r2.below.size
          clear hc0
          by_cases hM : has O (I j) k = true
          · have HM : Hid (has O (I j) k = true) := hM
            have HL : Hid (L2 I O n k (j + 1) = L2 I O n k j) := L2_miss hM
            clear hM
            go_wp2_with fail
            refine (has_yes HM.out hOr hm).mono ?_
            rintro e w4 ⟨rfl, hw⟩
            subst hw
            clear hOr hl2 hc
            go_wp2
            go_roundw
            case rel => exact ⟨j + 1, by omega, by go_num, by rw [HL.out]; exact r2⟩
            case measure => simp [intOf]; omega
          · have hM' : has O (I j) k = false := by simpa using hM
            have HM : Hid (has O (I j) k = false) := hM'
            have HL : Hid (L2 I O n k (j + 1) = L2 I O n k j ++ [I j]) := L2_hit hM'
            clear hM hM'
            go_wp2_with fail
            refine (has_no HM.out hOr hm).mono ?_
            rintro e w4 ⟨rfl, hw⟩
            subst hw
            clear hOr
            go_wp2_with (at_builtin; refine wpList_push _ rfl _ _ rfl w.heap.size _ (L2 I O n k j) rfl (hl2.alloc _) w4.heap.size (I j) rfl (by simp) (by omega) (by simp; omega) ?_)
            intro v' w3 hl3 hg3
            have r3 : R2 w w3 v' (L2 I O n k (j + 1)) := by rw [HL.out]; exact r2.pushed hl3 hg3
            clear hl3 hg3 hl2 r2 HL hb2 hc
            go_wp2
            go_roundw
            case rel => exact ⟨j + 1, by omega, by go_num, r3⟩
            case measure => simp [intOf]; omega
        · obtain rfl : j = n := by omega
          go_wp2
          go_ret
          exact ⟨_, rfl, r2.own, r2.below⟩
end Go.Proofs.Qxb6600901aMods.Od
