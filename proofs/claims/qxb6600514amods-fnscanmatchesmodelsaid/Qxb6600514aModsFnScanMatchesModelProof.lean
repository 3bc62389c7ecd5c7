import Derived.Test.Qxb6600514aModsRows
import Derived.Test.Qxb6600514aModsZz
import Derived.WalkKit
import Derived.ProofKit
import Derived.OpenShut
import Derived.ShutString
import Derived.ChangeOld
import Derived.Below
namespace Go.Proofs.Qxb6600514aMods.fnScanMatchesModel
open Go.ChangeShapes Go.WideShapes Go.ChangeAt Go.RowKit Sc
open Go.ChangeMaps (open_string shut_string)
set_option linter.unusedVariables false

theorem own : ownKnob Trym.prog.godebug = none := by kernel_rfl
theorem laidOut : laidOutB Trym.prog = true := by kernel_rfl

/-- WHAT THE WALK IS TOLD OF A SLICE OF INTEGERS THAT CAME IN: it is nil; or it leads to a row of 'cap' cells, the numbers 'zs' (the first 'len' are its elements, the rest its spare room), each fitting its kind. -/
def IsRow (k : IntKind) (w : World) (a : Option Addr) (len cap : Nat) (zs : List Int) : Prop :=
  (a = none ∧ len = 0 ∧ cap = 0 ∧ zs = []) ∨
  ∃ x, a = some x ∧ len ≤ cap ∧ cap ≤ maxLen ∧ zs.length = cap ∧ (∀ i, i < zs.length → w.cell? (x.add i) = some (.int k (zs.getD i 0))) ∧ ∀ n ∈ zs, (Lit.int k n).wf = true

/-! ### The walk: the Go text returns true, and writes nothing that was there -/
set_option maxRecDepth 100000 in
set_option maxHeartbeats 2000000 in
theorem walk_row (D K : Int) (a : Option Addr) (len cap : Nat) (Z : Nat → Int) (w : World) (hrow : Row w a len Z) (hnil : a = none → len = 0 ∧ cap = 0) (hl : len ≤ 9223372036854775807) (hZ : ∀ k, k < len → 0 ≤ Z k ∧ Z k ≤ 255) :
    Calls Trym.prog 6 #[.int .i64 D, .int .i64 K, .slice a len cap] w fun e w' => e = .returned (.bool true) ∧ Below w.heap.size w w' := by
  go_enter Trym.func6, Trym.ntmps6
  go_wp2_with fail
  refine (bytes13 D K a len cap _).mono ?_
  rintro e w1 ⟨⟨x, rfl⟩, hw⟩
  subst hw
  cases x with
  | false =>
    go_wp2
    go_ret
    exact ⟨rfl, Below.refl _ _⟩
  | true =>
    by_cases h2 : (1048576 : Int) < len
    · go_wp2
      go_ret
      exact ⟨rfl, Below.refl _ _⟩
    · go_wp2_with fail
      refine (copy14 a len cap Z _ hrow hnil (by omega)).mono ?_
      rintro e w2 ⟨a', rfl, hr2, hb2⟩
      clear hrow hnil
      go_wp2_with fail
      refine (zz15 D K a' len len Z _ hr2 (by omega) hZ).mono ?_
      rintro e w3 ⟨hb3, hs⟩
      rcases hs with ⟨s, hr, rfl⟩ | ⟨l, s, hr, rfl⟩
      · obtain ⟨d, ks, ins, esc⟩ := s
        have hr4 : ∀ o, Row (w3.alloc o) a' len Z := fun o => hr2.later (hb3.trans ((Below.refl _ _).alloc hb3.size _))
        have HR : Hid (run Z D K len = .inl ⟨d, ks, ins, esc⟩) := hr
        clear hr hr2
        go_wp2_with fail
        refine (model16 D K a' len len Z _ (hr4 _) (by omega) hZ).mono ?_
        rw [HR.out]
        rintro e w4 ⟨rfl, hw⟩
        subst hw
        simp only [modelOut]
        clear HR hr4 hZ
        cases ins <;> cases esc
        all_goals
          go_wp2
          go_ret
          exact ⟨rfl, (hb2.trans (hb3.mono hb2.size)).alloc (Nat.le_trans hb2.size hb3.size) _⟩
      · obtain ⟨d, ks, ins, esc⟩ := s
        have hr4 : ∀ o, Row (w3.alloc o) a' len Z := fun o => hr2.later (hb3.trans ((Below.refl _ _).alloc hb3.size _))
        have HR : Hid (run Z D K len = .inr l) := hr
        clear hr hr2
        go_wp2_with fail
        refine (model16 D K a' len len Z _ (hr4 _) (by omega) hZ).mono ?_
        rw [HR.out]
        rintro e w4 ⟨rfl, hw⟩
        subst hw
        simp only [modelOut]
        clear HR hr4 hZ
        go_wp2
        go_ret
        exact ⟨rfl, (hb2.trans (hb3.mono hb2.size)).alloc (Nat.le_trans hb2.size hb3.size) _⟩

theorem walk (a0 : Int) (a1 : Int) (a2 : Option Addr) (len2 cap2 : Nat) (z2 : List Int) (w : World) (w2 : IsRow .u8 w a2 len2 cap2 z2) :
    Calls Trym.prog 6 #[.int .i64 a0, .int .i64 a1, .slice a2 len2 cap2] w fun e w' => e = .returned (.bool true) ∧ Below w.heap.size w w' := by
  rcases w2 with ⟨rfl, rfl, rfl, rfl⟩ | ⟨x, rfl, hl, hm, hz, hcell, hwf⟩
  · exact walk_row a0 a1 none 0 0 (fun _ => 0) w (.inl rfl) (fun _ => ⟨rfl, rfl⟩) (by omega) (fun k hk => by omega)
  · unfold maxLen at hm
    refine walk_row a0 a1 (some x) len2 cap2 (fun i => z2.getD i 0) w ?_ (fun h => by simp at h) (by omega) ?_
    · by_cases h0 : len2 = 0
      · exact .inl h0
      · obtain ⟨b, off, rfl, hc⟩ := ints_at hcell (by omega)
        exact .inr ⟨b, off, rfl, fun k hk => hc k (by omega)⟩
    · intro k hk
      have hk' : k < z2.length := by omega
      have hmem : z2.getD k 0 ∈ z2 := by
        rw [List.getD_eq_getElem?_getD, List.getElem?_eq_getElem hk']
        exact List.getElem_mem hk'
      exact bounds_u8 (hwf _ hmem)

/-! ### THE ROW's STEP: WRITTEN OUT: LEAVE IT -/
set_option maxRecDepth 100000 in
theorem lifted (os : Os) (started : os.Started) (H : Type) (enc : TypeId × Value → H) :
    ReturnsInHanded {} Trym.checked os 6 .any (Rows.fnScanMatchesModelSpec.pre6 enc Trym.prog Trym.f6 Rows.fnScanMatchesModelRow.domain false) (Rows.fnScanMatchesModelSpec.post enc Trym.prog Trym.f6 false true false false) := by
  refine returnsInHanded_of_change (C := Trym.checked) own started (by kernel_rfl) Trym.func6
    (ChangeSpec.witness6 (enc := enc) (C := Trym.checked) false ⟨#[], #[.int .i64 0, .int .i64 0, .slice none 0 0], []⟩ 8 (by kernel_rfl) (by kernel_rfl) (by kernel_rfl) (by kernel_rfl)) ?_
  intro W base args ds gs before hval0 hW hcnd _
  have hval : ∀ (j : Nat) t v, Trym.f6.params[j]? = some t → args[j]? = some v → Value.okWide Trym.prog W .any base t v := hval0
  have hW' := hW
  obtain ⟨p, q, hA0, hV, rfl, hfz, hnd⟩ := hW
  have hA : DataW.TrodAll enc Trym.prog W 0 (fun _ => true) true Trym.f6.params.toList args.toList ds p := hA0
  rw [Trym.params6] at hA hval
  obtain ⟨v0, vs0, d0, ds0, p0, q0, hargs, rfl, rfl, h0, r0⟩ := trodAll_cons hA
  obtain ⟨v1, vs1, d1, ds1, p1, q1, rfl, rfl, rfl, h1, r1⟩ := trodAll_cons r0
  obtain ⟨v2, vs2, d2, ds2, p2, q2, rfl, rfl, rfl, h2, r2⟩ := trodAll_cons r1
  obtain ⟨rfl, rfl, rfl⟩ := trodAll_nil r2
  obtain rfl : args = #[v0, v1, v2] := by cases args; simp_all
  obtain ⟨rfl, rfl⟩ := trodVars_none hV
  obtain ⟨a0, rfl, rfl, rfl, w0⟩ := open_int Trym.underlying3 (hval 0 3 v0 rfl rfl) h0
  obtain ⟨a1, rfl, rfl, rfl, w1⟩ := open_int Trym.underlying3 (hval 1 3 v1 rfl rfl) h1
  obtain ⟨a2, len2, cap2, rfl⟩ := okWide_slice Trym.underlying25 (hval 2 25 v2 rfl rfl)
  have k2 := h2
  have lt2 : ∀ x ∈ p2, x.block < W.heap.size := by obtain ⟨m, hm⟩ := k2; exact DataW.trod_lt m _ _ _ hm
  obtain ⟨z2, w2⟩ : ∃ zs, IsRow .u8 W a2 len2 cap2 zs := by
    obtain ⟨fuel, hf⟩ := h2
    rcases open_ints Trym.underlying25 Trym.underlying5 (by kernel_rfl) hf with ⟨hcs, _⟩ | ⟨x, l, c, zs, hcs, _, hl, hm, hz, _, hcell, hwz⟩
    · simp [Value.cells] at hcs
      obtain ⟨rfl, rfl, rfl⟩ := hcs
      exact ⟨[], .inl ⟨rfl, rfl, rfl, rfl⟩⟩
    · simp [Value.cells] at hcs
      obtain ⟨rfl, rfl, rfl⟩ := hcs
      exact ⟨zs, .inr ⟨_, rfl, hl, hm, by simpa using hz, hcell, hwz⟩⟩
  clear hA0 hval0
  refine (walk a0 a1 a2 len2 cap2 z2 W w2).mono fun e W' ⟨he, bel⟩ => ?_
  subst he
  exact ⟨_, rfl, _, _, _, [], _, [], hW', trodAll_mk1 (shut_bool Trym.underlying4 _), (trodAll_cons_mk (shut_int Trym.underlying3 w0) (trodAll_cons_mk (shut_int Trym.underlying3 w1) (trodAll_cons_mk (Below.trod laidOut (by kernel_rfl) (of_decide_eq_true (by kernel_rfl)) k2 bel lt2) trodAll_mk0))), rfl, bel.frame _, fun h => by cases h⟩

theorem over : Rows.fnScanMatchesModelRow.holds Trym.pinned (OpenSpec.ofChange Rows.fnScanMatchesModelSpec) :=
  OpenClaim.holds_of_wide 6 Trym.f6 rfl rfl rfl rfl rfl rfl rfl ⟨rfl, rfl, rfl, rfl, rfl⟩ rfl rfl rfl rfl rfl (by kernel_rfl) Trym.func6 (by kernel_rfl)
    (of_decide_eq_true (by kernel_rfl)) (by unfold Func.isWrapper; first | (rw [if_pos (by decide +kernel)]; kernel_rfl) | (rw [if_neg (by decide +kernel)]; exact ⟨rfl, rfl⟩))
    (fun os started H enc _ => lifted os started H enc)

/-- THE STATEMENT -/
theorem proved : Rows.FnScanMatchesModelSaid := over
end Go.Proofs.Qxb6600514aMods.fnScanMatchesModel
