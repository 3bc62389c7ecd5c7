import Derived.Test.Qxb6600265aModsRows
import Derived.Test.Qxb6600265aModsCalls
import Derived.WalkKit
import Derived.ProofKit
import Derived.OpenShut
import Derived.ShutString
import Derived.SliceStrings
import Derived.ChangeOld
import Derived.Below
namespace Go.Proofs.Qxb6600265aMods.fnVouchedQuorumOneMoreFaultOneFewerAck
open Go.ChangeShapes Go.WideShapes Go.ChangeAt Go.RowKit Vq
open Go.ChangeMaps (open_string shut_string)

theorem own : ownKnob Trym.prog.godebug = none := by kernel_rfl
theorem laidOut : laidOutB Trym.prog = true := by kernel_rfl

/-! ### The plain law -/
theorem law (len : Nat) (n q : Int) (hn : n = len ∨ n = len + 1) :
    1 ≤ need n q ∧ 1 ≤ need n (q + 1) ∧ (0 ≤ q → need n q ≤ len + 1) ∧ (1 < need n q → need n (q + 1) = need n q - 1) ∧ (need n q ≤ 1 → need n (q + 1) = 1) ∧ need n q ≤ 1000000 + len + (if q < 0 then - q else 0) := by
  unfold need
  split <;> split <;> split <;> omega
theorem sites_or (S : Nat → ByteArray) (s : ByteArray) (len : Nat) : sites S s len = len ∨ sites S s len = len + 1 := by
  unfold sites
  split <;> simp

set_option maxHeartbeats 1000000 in
/-- Behind the clone: the two calls and the tests. -/
theorem walk (a : Option Addr) (len cap : Nat) (S : Nat → ByteArray) (s : ByteArray) (q : Int) (w : World) (hrow : Row w a len S) (hnil : a = none → len = 0 ∧ cap = 0) (hl : len ≤ 9223372036854775807) (hq1 : -9223372036854775808 ≤ q) (hq2 : q ≤ 9223372036854775807) :
    Calls Trym.prog 4 #[.slice a len cap, .string s, .int .i64 q] w fun e w' => e = .returned (.bool true) ∧ Below w.heap.size w w' := by
  obtain ⟨l1, l2, l3, l4, l5, l6⟩ := law len (sites S s len) q (sites_or S s len)
  generalize hn0 : need (sites S s len) q = n0 at l1 l2 l3 l4 l5 l6
  generalize hn1 : need (sites S s len) (q + 1) = n1 at l1 l2 l3 l4 l5 l6
  have H0 : Hid (need (sites S s len) q = n0) := hn0
  have H1 : Hid (need (sites S s len) (q + 1) = n1) := hn1
  have L : Hid ((0 ≤ q → n0 ≤ len + 1) ∧ (1 < n0 → n1 = n0 - 1) ∧ (n0 ≤ 1 → n1 = 1) ∧ n0 ≤ 1000000 + len + (if q < 0 then - q else 0)) := ⟨l3, l4, l5, l6⟩
  clear hn0 hn1 l3 l4 l5 l6
  go_enter Trym.func4, Trym.ntmps4
  go_wp2_with fail
  refine (bytes11 a len cap S s q _ hrow hl).mono ?_
  rintro e w1 ⟨⟨x, rfl⟩, hw⟩
  subst hw
  cases x with
  | false =>
    go_wp2
    go_ret
    exact ⟨rfl, Below.refl _ _⟩
  | true =>
    by_cases h2 : (65536 : Int) < len
    · go_wp2
      go_ret
      exact ⟨rfl, Below.refl _ _⟩
    · go_wp2_with fail
      refine (bytes6 a len cap S s _ hrow hl).mono ?_
      rintro e w2 ⟨⟨x, rfl⟩, hw⟩
      subst hw
      by_cases h3 : (1048576 : Int) < x
      · go_wp2
        go_ret
        exact ⟨rfl, Below.refl _ _⟩
      · by_cases h4 : q < -1073741824
        · go_wp2
          go_ret
          exact ⟨rfl, Below.refl _ _⟩
        · by_cases h5 : q = 9223372036854775807
          · have h5' : (q == 9223372036854775807) = true := by simp [h5]
            clear h5
            go_wp2
            go_ret
            exact ⟨rfl, Below.refl _ _⟩
          · have h6 : q ≤ 9223372036854775806 := by omega
            have h5' : (q == 9223372036854775807) = false := by simp [h5]
            clear h5
            go_wp2_with fail
            refine (clone7 a len cap S _ hrow hnil (by omega)).mono ?_
            rintro e w3 ⟨a', rfl, hr3, hb3⟩
            go_wp2_with fail
            refine (zz8 a' len len S s q _ hr3 (by omega) (by omega) (by omega)).mono ?_
            rintro e w4 ⟨rfl, hb4⟩
            rw [H0.out]
            have hr4 := hr3.later hb4
            go_wp2_with fail
            refine (zz8 a' len len S s (q + 1) _ hr4 (by omega) (by omega) (by omega)).mono ?_
            rintro e w5 ⟨rfl, hb5⟩
            rw [H1.out]
            have hb : Below w2.heap.size w2 w5 := hb3.trans ((hb4.mono hb3.size).trans (hb5.mono (Nat.le_trans hb3.size hb4.size)))
            clear hr3 hr4 hb3 hb4 hb5 hrow hnil H0 H1
            obtain ⟨l3, l4, l5, l6⟩ := L.out
            clear L
            by_cases h7 : 1 < n0
            · obtain rfl := l4 h7
              clear l4 l5
              have e1 : (n0 - 1 == n0 - 1) = true := by simp
              by_cases h8 : 0 ≤ q
              · have := l3 h8
                clear l3
                go_wp2
                go_ret
                exact ⟨rfl, hb⟩
              · clear l3
                go_wp2
                go_ret
                exact ⟨rfl, hb⟩
            · obtain rfl := l5 (by omega)
              obtain rfl : n0 = 1 := by omega
              clear l4 l5
              by_cases h8 : 0 ≤ q
              · have := l3 h8
                clear l3
                go_wp2
                go_ret
                exact ⟨rfl, hb⟩
              · clear l3
                go_wp2
                go_ret
                exact ⟨rfl, hb⟩

/-- The cells of a slice of strings that came in, as the walk asks for them. -/
theorem row_of {W : World} {x : Addr} {len cap : Nat} {ss : List ByteArray} (hl : len ≤ cap) (hz : ss.length = cap) (hcell : ∀ i, i < ss.length → W.cell? (x.add i) = some (.string (ss.getD i ByteArray.empty))) :
    Row W (some x) len (fun i => ss.getD i ByteArray.empty) := by
  by_cases h0 : len = 0
  · exact .inl h0
  · obtain ⟨b, off, spot⟩ := x
    have hspot : spot = none := by simpa [Addr.add] using World.cell?_spot (hcell 0 (by omega))
    subst hspot
    exact .inr ⟨b, off, rfl, fun k hk => by rw [← Go.WideShapes.add_plain]; exact hcell k (by omega)⟩

/-! ### The row's step -/
set_option maxRecDepth 100000 in
theorem lifted (os : Os) (started : os.Started) (H : Type) (enc : TypeId × Value → H) :
    ReturnsInHanded {} Trym.checked os 4 .any (Rows.fnVouchedQuorumOneMoreFaultOneFewerAckSpec.pre6 enc Trym.prog Trym.f4 Rows.fnVouchedQuorumOneMoreFaultOneFewerAckRow.domain false) (Rows.fnVouchedQuorumOneMoreFaultOneFewerAckSpec.post enc Trym.prog Trym.f4 false true false false) := by
  refine returnsInHanded_of_change (C := Trym.checked) own started (by kernel_rfl) Trym.func4
    (ChangeSpec.witness6 (enc := enc) (C := Trym.checked) false ⟨#[], #[.slice none 0 0, .string ByteArray.empty, .int .i64 0], []⟩ 8 (by kernel_rfl) (by kernel_rfl) (by kernel_rfl) (by kernel_rfl)) ?_
  intro W base args ds gs before hval0 hW hcnd _
  have hval : ∀ (j : Nat) t v, Trym.f4.params[j]? = some t → args[j]? = some v → Value.okWide Trym.prog W .any base t v := hval0
  have hW' := hW
  obtain ⟨p, q, hA0, hV, rfl, hfz, hnd⟩ := hW
  have hA : DataW.TrodAll enc Trym.prog W 0 (fun _ => true) true Trym.f4.params.toList args.toList ds p := hA0
  rw [Trym.params4] at hA hval
  obtain ⟨v0, vs0, d0, ds0, p0, q0, hargs, rfl, rfl, h0, r0⟩ := trodAll_cons hA
  obtain ⟨v1, vs1, d1, ds1, p1, q1, rfl, rfl, rfl, h1, r1⟩ := trodAll_cons r0
  obtain ⟨v2, vs2, d2, ds2, p2, q2, rfl, rfl, rfl, h2, r2⟩ := trodAll_cons r1
  obtain ⟨rfl, rfl, rfl⟩ := trodAll_nil r2
  obtain rfl : args = #[v0, v1, v2] := by cases args; simp_all
  obtain ⟨rfl, rfl⟩ := trodVars_none hV
  obtain ⟨a0, len0, cap0, rfl⟩ := okWide_slice Trym.underlying22 (hval 0 22 v0 rfl rfl)
  have k0 := h0
  have lt0 : ∀ x ∈ p0, x.block < W.heap.size := by obtain ⟨m, hm⟩ := k0; exact DataW.trod_lt m _ _ _ hm
  obtain ⟨s1, rfl, rfl, rfl, w1⟩ := open_string Trym.underlying9 (hval 1 9 v1 rfl rfl) h1
  obtain ⟨a2, rfl, rfl, rfl, w2⟩ := open_int Trym.underlying3 (hval 2 3 v2 rfl rfl) h2
  obtain ⟨S, hrow, hnil, hlen⟩ : ∃ S, Row W a0 len0 S ∧ (a0 = none → len0 = 0 ∧ cap0 = 0) ∧ len0 ≤ 9223372036854775807 := by
    obtain ⟨fuel, hf⟩ := h0
    rcases open_strings Trym.underlying22 Trym.underlying9 (by kernel_rfl) hf with ⟨hcs, _⟩ | ⟨x, l, c, ss, hcs, _, hl, hm, hz, _, hcell, hws⟩
    · simp [Value.cells] at hcs
      obtain ⟨rfl, rfl, rfl⟩ := hcs
      exact ⟨fun _ => ByteArray.empty, .inl rfl, fun _ => ⟨rfl, rfl⟩, by omega⟩
    · simp [Value.cells] at hcs
      obtain ⟨rfl, rfl, rfl⟩ := hcs
      refine ⟨_, row_of hl (by simpa using hz) hcell, fun h => by simp at h, ?_⟩
      unfold maxLen at hm
      omega
  have b2 := bounds_i64 w2
  clear hA0 hval0
  refine (walk a0 len0 cap0 S s1 a2 W hrow hnil hlen b2.1 b2.2).mono fun e W' ⟨he, bel⟩ => ?_
  subst he
  exact ⟨_, rfl, _, _, _, [], _, [], hW', trodAll_mk1 (shut_bool Trym.underlying4 _), (trodAll_cons_mk (Below.trod laidOut (by kernel_rfl) (of_decide_eq_true (by kernel_rfl)) k0 bel lt0) (trodAll_cons_mk (shut_string Trym.underlying9 w1) (trodAll_cons_mk (shut_int Trym.underlying3 w2) trodAll_mk0))), rfl, bel.frame _, fun h => by cases h⟩

theorem over : Rows.fnVouchedQuorumOneMoreFaultOneFewerAckRow.holds Trym.pinned (OpenSpec.ofChange Rows.fnVouchedQuorumOneMoreFaultOneFewerAckSpec) :=
  OpenClaim.holds_of_wide 4 Trym.f4 rfl rfl rfl rfl rfl rfl rfl ⟨rfl, rfl, rfl, rfl, rfl⟩ rfl rfl rfl rfl rfl (by kernel_rfl) Trym.func4 (by kernel_rfl)
    (of_decide_eq_true (by kernel_rfl)) (by unfold Func.isWrapper; first | (rw [if_pos (by decide +kernel)]; kernel_rfl) | (rw [if_neg (by decide +kernel)]; exact ⟨rfl, rfl⟩))
    (fun os started H enc _ => lifted os started H enc)

/-- THE STATEMENT -/
theorem proved : Rows.FnVouchedQuorumOneMoreFaultOneFewerAckSaid :=
  over
end Go.Proofs.Qxb6600265aMods.fnVouchedQuorumOneMoreFaultOneFewerAck
