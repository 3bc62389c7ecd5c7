import Derived.Test.Qxb6600901aModsModel
namespace Go.Proofs.Qxb6600901aMods.Od
open Go.ChangeShapes Go.WideShapes Go.ChangeAt Go.RowKit Go.Maps
open Go.ChangeMaps Go.WideMaps Go.WideElems

theorem zz9 (a b : Option Addr) (n m c d : Nat) (I O : Nat → ByteArray) (w : World) (hI : Row w a n I) (hO : Row w b m O) (hSI : ∀ k, (I k).size ≤ maxLen) (hSO : ∀ k, (O k).size ≤ maxLen) (hn : n ≤ 4096) (hm : m ≤ 4096) :
    Calls Trym.prog 9 #[.slice a n c, .slice b m d] w fun e w' => Listed e w w' (L2 I O n m n) := by
  go_enter Trym.func9, Trym.ntmps9
  go_wp2_with fail
  refine (ordered14 a b n m c d I O _ hI hO hSI hSO hn hm).mono ?_
  rintro e w1 ⟨v, rfl, hl, hb⟩
  go_wp2
  go_ret
  exact ⟨v, rfl, hl, hb⟩

theorem Lst.row {w : World} {base : Nat} {v : Value} {xs : List ByteArray} (h : Lst w base v xs) : ∃ a cap, v = .slice a xs.length cap ∧ Row w a xs.length (fun i => xs.getD i ByteArray.empty) := by
  rcases h.2 with ⟨h1, h2⟩ | ⟨g, cap, cur, h1, _, _, _, _, _, _⟩
  · exact ⟨none, 0, by rw [h1, h2], .inl h2⟩
  · subst h1
    refine ⟨some ⟨g, 0, none⟩, cap, rfl, .inr ⟨g, 0, rfl, fun k hk => ?_⟩⟩
    rw [Nat.zero_add, World.ownsRow.cellAt h k (by omega)]
    simp [List.getElem?_map, List.getElem?_eq_getElem hk]

set_option maxHeartbeats 1000000 in
theorem same10 (a b : Option Addr) (len c d : Nat) (S : Nat → ByteArray) (w : World) (hA : Row w a len S) (hB : Row w b len S) (hl : len ≤ 100000) :
    Calls Trym.prog 10 #[.slice a len c, .slice b len d] w fun e w' => e = .returned (.bool true) ∧ Below w.heap.size w w' := by
  have e0 : ((len : Int) != len) = false := by simp
  go_enter Trym.func10, Trym.ntmps10
  go_wp2
  go_loopw [5] (fun i wr => ∃ k : Nat, k ≤ len ∧ i = .int .i64 k ∧ Below w.heap.size w wr) (fun i _ => len - (intOf i).toNat)
  case atStart => exact ⟨0, Nat.zero_le _, rfl, Below.refl _ _⟩
  case round =>
    obtain ⟨k, hk, rfl, hbel⟩ := hrel
    by_cases hlt : k < len
    · obtain ⟨b1, off1, rfl, hc1⟩ := (hA.later hbel).at hlt
      obtain ⟨b2, off2, rfl, hc2⟩ := (hB.later hbel).at hlt
      have e1 : ((S k).toList != (S k).toList) = false := by simp
      have hi : (k : Int) < len := by omega
      clear hA hB
      go_wp2
      go_quiet (fail)
      go_wp2
      go_roundw
      case rel => exact ⟨k + 1, by omega, by go_num, hbel.trans ⟨rfl, rfl, rfl, Nat.le_refl _, fun _ _ => rfl⟩⟩
      case measure => simp [intOf]; omega
    · go_wp2
      go_ret
      exact ⟨rfl, hbel⟩
end Go.Proofs.Qxb6600901aMods.Od
