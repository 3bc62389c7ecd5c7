import Derived.Test.Qxb6600901aModsRows
import Derived.Test.Qxb6600901aModsSame
import Derived.WalkKit
import Derived.ProofKit
import Derived.OpenShut
import Derived.ShutString
import Derived.SliceStrings
import Derived.ChangeOld
import Derived.Below
namespace Go.Proofs.Qxb6600901aMods.fnOrderedMatchesModel
open Go.ChangeShapes Go.WideShapes Go.ChangeAt Go.RowKit Od

theorem own : ownKnob Trym.prog.godebug = none := by kernel_rfl
theorem laidOut : laidOutB Trym.prog = true := by kernel_rfl

/-! ### The walk -/
set_option maxHeartbeats 1000000 in
theorem walk (a b : Option Addr) (n m c d : Nat) (I O : Nat → ByteArray) (w : World) (hI : Row w a n I) (hO : Row w b m O) (hnI : a = none → n = 0 ∧ c = 0) (hnO : b = none → m = 0 ∧ d = 0) (hSI : ∀ k, (I k).size ≤ maxLen) (hSO : ∀ k, (O k).size ≤ maxLen)
    (hn : n ≤ 9223372036854775807) (hm : m ≤ 9223372036854775807) :
    Calls Trym.prog 3 #[.slice a n c, .slice b m d] w fun e w' => e = .returned (.bool true) ∧ Below w.heap.size w w' := by
  go_enter Trym.func3, Trym.ntmps3
  go_wp2_with fail
  refine (bytes6 a b n m c d I O _ hI hO hn hm).mono ?_
  rintro e w1 ⟨⟨x, rfl⟩, hw⟩
  subst hw
  cases x with
  | false =>
    go_wp2
    go_ret
    exact ⟨rfl, Below.refl _ _⟩
  | true =>
    go_wp2_with fail
    refine (fits7 a b n m c d I O _ hI hO hn hm).mono ?_
    rintro e w2 ⟨⟨x, rfl, hx⟩, hw⟩
    subst hw
    cases x with
    | false =>
      clear hx
      go_wp2
      go_ret
      exact ⟨rfl, Below.refl _ _⟩
    | true =>
      obtain ⟨hn', hm'⟩ := hx rfl
      clear hx
      go_wp2_with fail
      refine (clone8 a n c I _ hI hnI hn').mono ?_
      rintro e w3 ⟨a3, rfl, hI3, hb3⟩
      have hO3 := hO.later hb3
      clear hI hO hnI
      go_wp2_with fail
      refine (clone8 b m d O _ hO3 hnO hm').mono ?_
      rintro e w4 ⟨b4, rfl, hO4, hb4⟩
      have hI4 := hI3.later hb4
      have hb24 : Below w2.heap.size w2 w4 := hb3.trans (hb4.mono hb3.size)
      clear hI3 hO3 hnO hb3 hb4
      go_wp2_with fail
      refine (zz9 a3 b4 n m n m I O _ hI4 hO4 hSI hSO hn' hm').mono ?_
      rintro e w5 ⟨v5, rfl, hl5, hb5⟩
      obtain ⟨a5, c5, rfl, hr5⟩ := hl5.row
      have hI5 := hI4.later hb5
      have hO5 := hO4.later hb5
      have hb25 : Below w2.heap.size w2 w5 := hb24.trans (hb5.mono hb24.size)
      have hle := L2_le I O n m n
      clear hl5 hb5 hI4 hO4 hSI hSO hb24
      go_wp2_with fail
      refine (model11 a3 b4 n m n m I O _ hI5 hO5 hn' hm' (Nat.le_refl _)).mono ?_
      rintro e w6 ⟨v6, rfl, hl6, hb6⟩
      obtain ⟨a6, c6, rfl, hr6⟩ := hl6.row
      have hr56 := hr5.later hb6
      have hb26 : Below w2.heap.size w2 w6 := hb25.trans (hb6.mono hb25.size)
      clear hl6 hb6 hI5 hO5 hr5 hb25
      go_wp2_with fail
      refine (same10 a5 a6 _ c5 c6 _ _ hr56 hr6 (by omega)).mono ?_
      rintro e w7 ⟨rfl, hb7⟩
      have hb27 : Below w2.heap.size w2 w7 := hb26.trans (hb7.mono hb26.size)
      clear hr56 hr6 hb26 hb7
      go_wp2
      go_ret
      exact ⟨rfl, hb27⟩

/-- The cells of a slice of strings that came in, as the walk asks for them. -/
theorem row_of {W : World} {x : Addr} {len cap : Nat} {ss : List ByteArray} (hl : len ≤ cap) (hz : ss.length = cap) (hcell : ∀ i, i < ss.length → W.cell? (x.add i) = some (.string (ss.getD i ByteArray.empty))) :
    Row W (some x) len (fun i => ss.getD i ByteArray.empty) := by
  by_cases h0 : len = 0
  · exact .inl h0
  · obtain ⟨b, off, spot⟩ := x
    have hspot : spot = none := by simpa [Addr.add] using World.cell?_spot (hcell 0 (by omega))
    subst hspot
    exact .inr ⟨b, off, rfl, fun k hk => by rw [← Go.WideShapes.add_plain]; exact hcell k (by omega)⟩
theorem short_of {ss : List ByteArray} (h : ∀ s ∈ ss, s.size ≤ maxLen) (k : Nat) : (ss.getD k ByteArray.empty).size ≤ maxLen := by
  by_cases hk : k < ss.length
  · refine h _ ?_
    rw [List.getD_eq_getElem?_getD, List.getElem?_eq_getElem hk]
    exact List.getElem_mem hk
  · rw [List.getD_eq_getElem?_getD, List.getElem?_eq_none (by omega)]
    exact Nat.zero_le _
/-- A slice of strings, opened once into all that the walk asks. -/
theorem opened {H : Type} {enc : TypeId × Value → H} {W : World} {a : Option Addr} {len cap : Nat} {dd : DataW H} {ps : List MemPlace} (h : DataW.Trod enc Trym.prog W 0 (fun _ => true) true 22 (.slice a len cap) dd ps) :
    ∃ S : Nat → ByteArray, Row W a len S ∧ (a = none → len = 0 ∧ cap = 0) ∧ (∀ k, (S k).size ≤ maxLen) ∧ len ≤ 9223372036854775807 := by
  obtain ⟨fuel, hf⟩ := h
  rcases open_strings Trym.underlying22 Trym.underlying9 (by kernel_rfl) hf with ⟨hcs, _⟩ | ⟨x, l, c, ss, hcs, _, hl, hm, hz, _, hcell, hws⟩
  · simp [Value.cells] at hcs
    obtain ⟨rfl, rfl, rfl⟩ := hcs
    exact ⟨fun _ => ByteArray.empty, .inl rfl, fun _ => ⟨rfl, rfl⟩, fun _ => Nat.zero_le _, by omega⟩
  · simp [Value.cells] at hcs
    obtain ⟨rfl, rfl, rfl⟩ := hcs
    refine ⟨_, row_of hl (by simpa using hz) hcell, fun h => by simp at h, short_of hws, ?_⟩
    unfold maxLen at hm
    omega

/-! ### The row's step -/
set_option maxRecDepth 100000 in
theorem lifted (os : Os) (started : os.Started) (H : Type) (enc : TypeId × Value → H) :
    ReturnsInHanded {} Trym.checked os 3 .any (Rows.fnOrderedMatchesModelSpec.pre6 enc Trym.prog Trym.f3 Rows.fnOrderedMatchesModelRow.domain false) (Rows.fnOrderedMatchesModelSpec.post enc Trym.prog Trym.f3 false true false false) := by
  refine returnsInHanded_of_change (C := Trym.checked) own started (by kernel_rfl) Trym.func3
    (ChangeSpec.witness6 (enc := enc) (C := Trym.checked) false ⟨#[], #[.slice none 0 0, .slice none 0 0], []⟩ 8 (by kernel_rfl) (by kernel_rfl) (by kernel_rfl) (by kernel_rfl)) ?_
  intro W base args ds gs before hval0 hW hcnd _
  have hval : ∀ (j : Nat) t v, Trym.f3.params[j]? = some t → args[j]? = some v → Value.okWide Trym.prog W .any base t v := hval0
  have hW' := hW
  obtain ⟨p, q, hA0, hV, rfl, hfz, hnd⟩ := hW
  have hA : DataW.TrodAll enc Trym.prog W 0 (fun _ => true) true Trym.f3.params.toList args.toList ds p := hA0
  rw [Trym.params3] at hA hval
  obtain ⟨v0, vs0, d0, ds0, p0, q0, hargs, rfl, rfl, h0, r0⟩ := trodAll_cons hA
  obtain ⟨v1, vs1, d1, ds1, p1, q1, rfl, rfl, rfl, h1, r1⟩ := trodAll_cons r0
  obtain ⟨rfl, rfl, rfl⟩ := trodAll_nil r1
  obtain rfl : args = #[v0, v1] := by cases args; simp_all
  obtain ⟨rfl, rfl⟩ := trodVars_none hV
  obtain ⟨a0, len0, cap0, rfl⟩ := okWide_slice Trym.underlying22 (hval 0 22 v0 rfl rfl)
  obtain ⟨a1, len1, cap1, rfl⟩ := okWide_slice Trym.underlying22 (hval 1 22 v1 rfl rfl)
  have k0 := h0
  have k1 := h1
  have lt0 : ∀ x ∈ p0, x.block < W.heap.size := by obtain ⟨m, hm⟩ := k0; exact DataW.trod_lt m _ _ _ hm
  have lt1 : ∀ x ∈ p1, x.block < W.heap.size := by obtain ⟨m, hm⟩ := k1; exact DataW.trod_lt m _ _ _ hm
  obtain ⟨I, hI, hnI, hSI, hlI⟩ := opened h0
  obtain ⟨O, hO, hnO, hSO, hlO⟩ := opened h1
  clear hA0 hval0
  refine (walk a0 a1 len0 len1 cap0 cap1 I O W hI hO hnI hnO hSI hSO hlI hlO).mono fun e W' ⟨he, bel⟩ => ?_
  subst he
  exact ⟨_, rfl, _, _, _, [], _, [], hW', trodAll_mk1 (shut_bool Trym.underlying4 _), (trodAll_cons_mk (Below.trod laidOut (by kernel_rfl) (of_decide_eq_true (by kernel_rfl)) k0 bel lt0) (trodAll_cons_mk (Below.trod laidOut (by kernel_rfl) (of_decide_eq_true (by kernel_rfl)) k1 bel lt1) trodAll_mk0)), rfl, bel.frame _, fun h => by cases h⟩

theorem over : Rows.fnOrderedMatchesModelRow.holds Trym.pinned (OpenSpec.ofChange Rows.fnOrderedMatchesModelSpec) :=
  OpenClaim.holds_of_wide 3 Trym.f3 rfl rfl rfl rfl rfl rfl rfl ⟨rfl, rfl, rfl, rfl, rfl⟩ rfl rfl rfl rfl rfl (by kernel_rfl) Trym.func3 (by kernel_rfl)
    (of_decide_eq_true (by kernel_rfl)) (by unfold Func.isWrapper; first | (rw [if_pos (by decide +kernel)]; kernel_rfl) | (rw [if_neg (by decide +kernel)]; exact ⟨rfl, rfl⟩))
    (fun os started H enc _ => lifted os started H enc)

/-- THE STATEMENT -/
theorem proved : Rows.FnOrderedMatchesModelSaid :=
  over
end Go.Proofs.Qxb6600901aMods.fnOrderedMatchesModel
