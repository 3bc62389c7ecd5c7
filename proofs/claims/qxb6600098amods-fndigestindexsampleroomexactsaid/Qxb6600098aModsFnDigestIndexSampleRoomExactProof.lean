import Derived.Test.Qxb6600098aModsRows
import Derived.Test.Qxb6600098aModsIdx
import Derived.WalkKit
import Derived.ProofKit
import Derived.OpenShut
import Derived.ShutString
import Derived.Below
namespace Go.Proofs.Qxb6600098aMods.fnDigestIndexSampleRoomExact
open Go.ChangeShapes Go.WideShapes Go.ChangeAt Go.RowKit Idx
open Go.ChangeMaps (open_string shut_string)
set_option linter.unusedVariables false      -- a walk need not use every 'w<i>' (that an integer argument fits its kind)

theorem own : ownKnob Trym.prog.godebug = none := by kernel_rfl

/-! ### The walk: the Go text returns true; of what was there nothing turns. -/
set_option maxHeartbeats 400000 in
theorem walk_in (c t l : Int) (h0 : 0 ≤ c) (h1 : c ≤ 65536) (w : World) :
    Calls Trym.prog 4 #[.int .i64 c, .int .i64 t, .int .i64 l] w fun e w' => e = .returned (.bool true) ∧ Below w.heap.size w w' := by
  obtain ⟨N, hN⟩ : ∃ N : Nat, (c * 10 + 63) / 64 + 1 = N := ⟨((c * 10 + 63) / 64 + 1).toNat, by omega⟩
  obtain ⟨M, hM⟩ : ∃ M : Nat, (c + 64 - 1) / 64 = M := ⟨((c + 64 - 1) / 64).toNat, by omega⟩
  have HN : Hid ((c * 10 + 63) / 64 + 1 = (N : Int)) := hN
  have HM : Hid ((c + 64 - 1) / 64 = (M : Int)) := hM
  clear hN hM
  go_enter Trym.func4, Trym.ntmps4
  go_wp2_with fail
  refine (new6 c t l N M h0 h1 HN.out HM.out _).mono ?_
  rintro e w1 ⟨g1, g2, rfl, hb, hz, hg⟩
  clear hb hz
  go_wp2
  go_loop [8, 9] (fun s i => ∃ k : Nat, (k : Int) ≤ c ∧ i = .int .i64 k ∧ s = .int .i64 (((k : Int) + 63) / 64)) (fun _ i => c.toNat - (intOf i).toNat)
  case atStart => exact ⟨0, by omega, rfl, rfl⟩
  case round =>
    obtain ⟨k, hk, rfl, rfl⟩ := hrel
    by_cases hlt : (k : Int) < c
    · by_cases hm : (k : Int) % 64 = 0
      · have hm' : ((k : Int) % 64 == 0) = true := by simp [hm]
        have hs : (((k + 1 : Nat) : Int) + 63) / 64 = ((k : Int) + 63) / 64 + 1 := by omega
        have HS : Hid ((((k + 1 : Nat) : Int) + 63) / 64 = ((k : Int) + 63) / 64 + 1) := hs
        clear hs hm
        go_wp2
        go_round
        case rel => exact ⟨k + 1, by omega, by go_num, by rw [HS.out]⟩
        case measure => simp [intOf]; omega
      · have hm' : ((k : Int) % 64 == 0) = false := by simp [hm]
        have hs : (((k + 1 : Nat) : Int) + 63) / 64 = ((k : Int) + 63) / 64 := by omega
        have HS : Hid ((((k + 1 : Nat) : Int) + 63) / 64 = ((k : Int) + 63) / 64) := hs
        clear hs hm
        go_wp2
        go_round
        case rel => exact ⟨k + 1, by omega, by go_num, by rw [HS.out]⟩
        case measure => simp [intOf]; omega
    · have he : ((M : Int) == ((k : Int) + 63) / 64) = true := by have := HM.out; simp; omega
      go_wp2
      go_ret
      exact ⟨rfl, hg.alloc (by have := hg.size; omega) _⟩

set_option maxHeartbeats 400000 in
theorem walk (a0 : Int) (a1 : Int) (a2 : Int) (w : World) :
    Calls Trym.prog 4 #[.int .i64 a0, .int .i64 a1, .int .i64 a2] w fun e w' => e = .returned (.bool true) ∧ Below w.heap.size w w' := by
  by_cases h0 : a0 < 0
  · go_enter Trym.func4, Trym.ntmps4
    go_wp2
    go_ret
    exact ⟨rfl, Below.refl _ _⟩
  · by_cases h1 : 65536 < a0
    · go_enter Trym.func4, Trym.ntmps4
      go_wp2
      go_ret
      exact ⟨rfl, Below.refl _ _⟩
    · exact walk_in a0 a1 a2 (by omega) (by omega) w

/-! ### THE ROW's STEP: WRITTEN OUT: LEAVE IT -/
set_option maxRecDepth 100000 in
theorem lifted (os : Os) (started : os.Started) (H : Type) (enc : TypeId × Value → H) :
    ReturnsInHanded {} Trym.checked os 4 .any (Rows.fnDigestIndexSampleRoomExactSpec.pre6 enc Trym.prog Trym.f4 Rows.fnDigestIndexSampleRoomExactRow.domain false) (Rows.fnDigestIndexSampleRoomExactSpec.post enc Trym.prog Trym.f4 false true false false) := by
  refine returnsInHanded_of_change (C := Trym.checked) own started (by kernel_rfl) Trym.func4
    (ChangeSpec.witness6 (enc := enc) (C := Trym.checked) false ⟨#[], #[.int .i64 0, .int .i64 0, .int .i64 0], []⟩ 8 (by kernel_rfl) (by kernel_rfl) (by kernel_rfl) (by kernel_rfl)) ?_
  intro W base args ds gs before hval0 hW hcnd _
  have hval : ∀ (j : Nat) t v, Trym.f4.params[j]? = some t → args[j]? = some v → Value.okWide Trym.prog W .any base t v := hval0
  have hW' := hW
  obtain ⟨p, q, hA0, hV, rfl, hfz, hnd⟩ := hW
  have hA : DataW.TrodAll enc Trym.prog W 0 (fun _ => true) true Trym.f4.params.toList args.toList ds p := hA0
  rw [Trym.params4] at hA hval
  obtain ⟨v0, vs0, d0, ds0, p0, q0, hargs, rfl, rfl, h0, r0⟩ := trodAll_cons hA
  obtain ⟨v1, vs1, d1, ds1, p1, q1, rfl, rfl, rfl, h1, r1⟩ := trodAll_cons r0
  obtain ⟨v2, vs2, d2, ds2, p2, q2, rfl, rfl, rfl, h2, r2⟩ := trodAll_cons r1
  obtain ⟨rfl, rfl, rfl⟩ := trodAll_nil r2
  obtain rfl : args = #[v0, v1, v2] := by cases args; simp_all
  obtain ⟨rfl, rfl⟩ := trodVars_none hV
  obtain ⟨a0, rfl, rfl, rfl, w0⟩ := open_int Trym.underlying3 (hval 0 3 v0 rfl rfl) h0
  obtain ⟨a1, rfl, rfl, rfl, w1⟩ := open_int Trym.underlying2 (hval 1 2 v1 rfl rfl) h1
  obtain ⟨a2, rfl, rfl, rfl, w2⟩ := open_int Trym.underlying3 (hval 2 3 v2 rfl rfl) h2
  clear hA0 hval0
  refine (walk a0 a1 a2 W).mono fun e W' ⟨he, bel⟩ => ?_
  subst he
  exact ⟨_, rfl, _, _, _, [], _, [], hW', trodAll_mk1 (shut_bool Trym.underlying4 _), (trodAll_cons_mk (shut_int Trym.underlying3 w0) (trodAll_cons_mk (shut_int Trym.underlying2 w1) (trodAll_cons_mk (shut_int Trym.underlying3 w2) trodAll_mk0))), rfl, bel.frame _, fun h => by cases h⟩

theorem over : Rows.fnDigestIndexSampleRoomExactRow.holds Trym.pinned (OpenSpec.ofChange Rows.fnDigestIndexSampleRoomExactSpec) :=
  OpenClaim.holds_of_wide 4 Trym.f4 rfl rfl rfl rfl rfl rfl rfl ⟨rfl, rfl, rfl, rfl, rfl⟩ rfl rfl rfl rfl rfl (by kernel_rfl) Trym.func4 (by kernel_rfl)
    (of_decide_eq_true (by kernel_rfl)) (by unfold Func.isWrapper; first | (rw [if_pos (by decide +kernel)]; kernel_rfl) | (rw [if_neg (by decide +kernel)]; exact ⟨rfl, rfl⟩))
    (fun os started H enc _ => lifted os started H enc)

/-- THE STATEMENT -/
theorem proved : Rows.FnDigestIndexSampleRoomExactSaid :=
  over
end Go.Proofs.Qxb6600098aMods.fnDigestIndexSampleRoomExact
