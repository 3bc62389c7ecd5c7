import Derived.Test.Qxb6600514aModsParts
namespace Go.Proofs.Qxb6600514aMods.Sc
open Go.ChangeShapes Go.WideShapes Go.ChangeAt Go.RowKit

/-! ### One byte, case by case -/
section
variable {Z : Nat → Int} {D K : Int} {k : Nat} {d ks : Int}
theorem s_esc {ins : Bool} (h : run Z D K k = .inl ⟨d, ks, ins, true⟩) : run Z D K (k + 1) = .inl ⟨d, ks, ins, false⟩ := by
  rw [run_step h]; simp [step]
theorem s_back (h : run Z D K k = .inl ⟨d, ks, true, false⟩) (hc : Z k = 92) : run Z D K (k + 1) = .inl ⟨d, ks, true, true⟩ := by
  rw [run_step h]; simp [step, hc]
theorem s_quote {ins : Bool} (h : run Z D K k = .inl ⟨d, ks, ins, false⟩) (hc : Z k = 34) : run Z D K (k + 1) = .inl ⟨d, ks, !ins, false⟩ := by
  rw [run_step h]; simp [step, hc]
theorem s_in (h : run Z D K k = .inl ⟨d, ks, true, false⟩) (hc : Z k ≠ 92) (hc2 : Z k ≠ 34) : run Z D K (k + 1) = .inl ⟨d, ks, true, false⟩ := by
  rw [run_step h]; simp [step, hc, hc2]
theorem s_up (h : run Z D K k = .inl ⟨d, ks, false, false⟩) (hc : Z k = 91 ∨ Z k = 123) (ht : ¬ (0 < D ∧ D < d + 1)) : run Z D K (k + 1) = .inl ⟨d + 1, ks, false, false⟩ := by
  rw [run_step h]; unfold step; rw [if_neg (by simp), if_neg (by simp), if_neg (by omega), if_neg (by simp), if_pos hc, if_neg ht]
theorem s_up_trip (h : run Z D K k = .inl ⟨d, ks, false, false⟩) (hc : Z k = 91 ∨ Z k = 123) (ht : 0 < D ∧ D < d + 1) : run Z D K (k + 1) = .inr 5 := by
  rw [run_step h]; unfold step; rw [if_neg (by simp), if_neg (by simp), if_neg (by omega), if_neg (by simp), if_pos hc, if_pos ht]
theorem s_down (h : run Z D K k = .inl ⟨d, ks, false, false⟩) (hc : Z k = 93 ∨ Z k = 125) : run Z D K (k + 1) = .inl ⟨if 0 < d - 1 then d - 1 else 0, ks, false, false⟩ := by
  rw [run_step h]; unfold step; rw [if_neg (by simp), if_neg (by simp), if_neg (by omega), if_neg (by simp), if_neg (by omega), if_pos hc]
theorem s_key (h : run Z D K k = .inl ⟨d, ks, false, false⟩) (hc : Z k = 58) (ht : ¬ (0 < K ∧ K < ks + 1)) : run Z D K (k + 1) = .inl ⟨d, ks + 1, false, false⟩ := by
  rw [run_step h]; unfold step; rw [if_neg (by simp), if_neg (by simp), if_neg (by omega), if_neg (by simp), if_neg (by omega), if_neg (by omega), if_pos hc, if_neg ht]
theorem s_key_trip (h : run Z D K k = .inl ⟨d, ks, false, false⟩) (hc : Z k = 58) (ht : 0 < K ∧ K < ks + 1) : run Z D K (k + 1) = .inr 6 := by
  rw [run_step h]; unfold step; rw [if_neg (by simp), if_neg (by simp), if_neg (by omega), if_neg (by simp), if_neg (by omega), if_neg (by omega), if_pos hc, if_pos ht]
theorem s_other (h : run Z D K k = .inl ⟨d, ks, false, false⟩) (h1 : Z k ≠ 34) (h2 : Z k ≠ 91) (h3 : Z k ≠ 123) (h4 : Z k ≠ 93) (h5 : Z k ≠ 125) (h6 : Z k ≠ 58) : run Z D K (k + 1) = .inl ⟨d, ks, false, false⟩ := by
  rw [run_step h]; unfold step; rw [if_neg (by simp), if_neg (by simp), if_neg (by omega), if_neg (by simp), if_neg (by omega), if_neg (by omega), if_neg (by omega)]
theorem s_str {esc : Bool} (h : run Z D K k = .inl ⟨d, ks, true, esc⟩) (hc : Z k ≠ 34) : ∃ esc', run Z D K (k + 1) = .inl ⟨d, ks, true, esc'⟩ := by
  cases esc with
  | true => exact ⟨_, s_esc h⟩
  | false =>
    by_cases e : Z k = 92
    · exact ⟨_, s_back h e⟩
    · exact ⟨_, s_in h e hc⟩
end

/-- What the model answers, from what the machine comes to. -/
def modelOut : St ⊕ Int → Value
  | .inl s => .tuple #[.bool false, .int .u8 0, .int .i64 s.d, .int .i64 s.ks, .bool s.ins, .bool s.esc]
  | .inr l => .tuple #[.bool true, .int .u8 l, .int .i64 0, .int .i64 0, .bool false, .bool false]

/-- The model's slots behind k bytes. -/
def Rel (Z : Nat → Int) (D K : Int) (len : Nat) (vi vx vl vk vc : Value) : Prop :=
  ∃ (k : Nat) (x low : Int) (s : St), k ≤ len ∧ vi = .bool s.ins ∧ vx = .int .i64 x ∧ vl = .int .i64 low ∧ vk = .int .i64 s.ks ∧ vc = .int .i64 k ∧
    run Z D K k = .inl s ∧ x - low = s.d ∧ -(k : Int) ≤ low ∧ low ≤ 0 ∧ x ≤ k

set_option maxRecDepth 100000 in
set_option maxHeartbeats 4000000 in
theorem model16 (D K : Int) (a : Option Addr) (len cap : Nat) (Z : Nat → Int) (w : World) (hrow : Row w a len Z) (hl : len ≤ 1048576) (hZ : ∀ k, k < len → 0 ≤ Z k ∧ Z k ≤ 255) :
    Calls Trym.prog 16 #[.int .i64 D, .int .i64 K, .slice a len cap] w fun e w' => e = .returned (modelOut (run Z D K len)) ∧ w' = w := by
  generalize ho : modelOut (run Z D K len) = o
  have HO : Hid (modelOut (run Z D K len) = o) := ho
  clear ho
  by_cases hlen : len = 0
  · subst hlen
    obtain rfl : o = .tuple #[.bool false, .int .u8 0, .int .i64 0, .int .i64 0, .bool false, .bool false] := HO.out.symm
    go_enter Trym.func16, Trym.ntmps16
    go_wp2
    go_loop [12, 13, 14, 15, 16] (fun vi vx vl vk vc => vi = .bool false ∧ vx = .int .i64 0 ∧ vl = .int .i64 0 ∧ vk = .int .i64 0 ∧ vc = .int .i64 0) (fun _ _ _ _ _ => 0)
    case atStart => exact ⟨rfl, rfl, rfl, rfl, rfl⟩
    case round =>
      obtain ⟨rfl, rfl, rfl, rfl, rfl⟩ := hrel
      go_wp2
      exact bodyPost_ret (v := .tuple #[.bool false, .int .u8 0, .int .i64 0, .int .i64 0, .bool false, .bool false]) (by simp [results, Trym.results16, go_sem]) rfl ⟨rfl, rfl⟩
  · have hrow' := hrow
    rcases hrow with h | ⟨b, off, rfl, hcell⟩
    · exact absurd h hlen
    clear hlen
    go_enter Trym.func16, Trym.ntmps16
    go_wp2
    go_loop [12, 13, 14, 15, 16] (fun vi vx vl vk vc => Rel Z D K len vi vx vl vk vc) (fun _ _ _ _ vc => len - (intOf vc).toNat)
    case atStart => exact ⟨0, 0, 0, ⟨0, 0, false, false⟩, Nat.zero_le _, rfl, rfl, rfl, rfl, rfl, rfl, rfl, by omega, by omega, by omega⟩
    case round =>
      obtain ⟨k, x, low, ⟨d, ks, ins, esc⟩, hk, rfl, rfl, rfl, rfl, rfl, hr, hd, hlo, hlo2, hx⟩ := hrel
      obtain ⟨⟨i1, i2⟩, ⟨i3, i4⟩, i5⟩ := run_inv Z D K k _ hr
      simp only at i1 i2 i3 i4 i5 hd
      have hd1 : x - low ≤ d := by omega
      have hd2 : d ≤ x - low := by omega
      have HI : Hid (esc = (ins && decide (backs Z k % 2 = 1))) := i5
      have HR : Hid (run Z D K k = .inl ⟨d, ks, ins, esc⟩) := hr
      clear i5 hr hd
      by_cases hlt : k < len
      · have hc := hcell k hlt
        obtain ⟨z1, z2⟩ := hZ k hlt
        clear hcell hZ
        cases ins with
        | true =>
          simp only
          by_cases c34 : Z k = 34
          · rw [c34] at hc
            cases hesc : esc with
            | true =>
              subst hesc
              have hb : backs Z k % 2 = 1 := by simpa using HI.out.symm
              have hb' : (((backs Z k : Nat) : Int) % 2 == 0) = false := by simp; omega
              have HN : Hid (run Z D K (k + 1) = .inl ⟨d, ks, true, false⟩) := s_esc HR.out
              clear HR HI hb c34
              go_wp2_with fail
              refine (backs22 _ len cap k Z _ hrow' (by omega) hl).mono ?_
              rintro e w1 ⟨rfl, hw⟩
              subst hw
              go_wp2
              go_round
              case rel => exact ⟨k + 1, x, low, ⟨d, ks, true, false⟩, by omega, rfl, rfl, rfl, rfl, by go_num, HN.out, by simp only; omega, by omega, by omega, by omega⟩
              case measure => simp [intOf]; omega
            | false =>
              subst hesc
              have hb : backs Z k % 2 = 0 := by have := HI.out; simp at this; omega
              have hb' : (((backs Z k : Nat) : Int) % 2 == 0) = true := by simp; omega
              have HN : Hid (run Z D K (k + 1) = .inl ⟨d, ks, false, false⟩) := s_quote HR.out c34
              clear HR HI hb c34
              go_wp2_with fail
              refine (backs22 _ len cap k Z _ hrow' (by omega) hl).mono ?_
              rintro e w1 ⟨rfl, hw⟩
              subst hw
              go_wp2
              go_round
              case rel => exact ⟨k + 1, x, low, ⟨d, ks, false, false⟩, by omega, rfl, rfl, rfl, rfl, by go_num, HN.out, by simp only; omega, by omega, by omega, by omega⟩
              case measure => simp [intOf]; omega
          · have c' : (Z k == 34) = false := by simp [c34]
            obtain ⟨esc', hn⟩ := s_str HR.out c34
            have HN : Hid (run Z D K (k + 1) = .inl ⟨d, ks, true, esc'⟩) := hn
            clear HR HI hn c34
            go_wp2
            go_round
            case rel => exact ⟨k + 1, x, low, ⟨d, ks, true, esc'⟩, by omega, rfl, rfl, rfl, rfl, by go_num, HN.out, by simp only; omega, by omega, by omega, by omega⟩
            case measure => simp [intOf]; omega
        | false =>
          obtain rfl : esc = false := by simpa using HI.out
          simp only
          by_cases c34 : Z k = 34
          · rw [c34] at hc
            have HN : Hid (run Z D K (k + 1) = .inl ⟨d, ks, true, false⟩) := s_quote HR.out c34
            clear HR HI c34
            go_wp2
            go_round
            case rel => exact ⟨k + 1, x, low, ⟨d, ks, true, false⟩, by omega, rfl, rfl, rfl, rfl, by go_num, HN.out, by simp only; omega, by omega, by omega, by omega⟩
            case measure => simp [intOf]; omega
          · by_cases cup : Z k = 91 ∨ Z k = 123
            · by_cases ht : 0 < D ∧ D < d + 1
              · have HN : Hid (o = .tuple #[.bool true, .int .u8 5, .int .i64 0, .int .i64 0, .bool false, .bool false]) := by show o = _; rw [← HO.out, run_trip (s_up_trip HR.out cup ht) len (by omega)]; rfl
                obtain ⟨t1, t2⟩ := ht
                have t3 : D < x + 1 - low := by omega
                clear HR HI c34 hrow'
                rcases cup with cup | cup
                all_goals
                  rw [cup] at hc
                  clear cup
                  go_wp2
                  exact bodyPost_ret (v := .tuple #[.bool true, .int .u8 5, .int .i64 0, .int .i64 0, .bool false, .bool false]) (by simp [results, Trym.results16, go_sem]) rfl ⟨by rw [HN.out], rfl⟩
              · have HN : Hid (run Z D K (k + 1) = .inl ⟨d + 1, ks, false, false⟩) := s_up HR.out cup ht
                clear HR HI c34 hrow'
                by_cases t1 : 0 < D
                · have t3 : ¬ D < x + 1 - low := by omega
                  clear ht
                  rcases cup with cup | cup
                  all_goals
                    rw [cup] at hc
                    clear cup
                    go_wp2
                    go_round
                    case rel => exact ⟨k + 1, x + 1, low, ⟨d + 1, ks, false, false⟩, by omega, rfl, rfl, rfl, rfl, by go_num, HN.out, by simp only; omega, by omega, by omega, by omega⟩
                    case measure => simp [intOf]; omega
                · have t1' : decide (0 < D) = false := by simpa using t1
                  clear ht
                  rcases cup with cup | cup
                  all_goals
                    rw [cup] at hc
                    clear cup
                    go_wp2
                    go_round
                    case rel => exact ⟨k + 1, x + 1, low, ⟨d + 1, ks, false, false⟩, by omega, rfl, rfl, rfl, rfl, by go_num, HN.out, by simp only; omega, by omega, by omega, by omega⟩
                    case measure => simp [intOf]; omega
            · by_cases cdn : Z k = 93 ∨ Z k = 125
              · have HN : Hid (run Z D K (k + 1) = .inl ⟨if 0 < d - 1 then d - 1 else 0, ks, false, false⟩) := s_down HR.out cdn
                clear HR HI c34 hrow' cup
                by_cases t1 : x - 1 < low
                · have e0 : (if 0 < d - 1 then d - 1 else 0) = 0 := by rw [if_neg (by omega)]
                  rw [e0] at HN
                  clear e0
                  rcases cdn with cup | cup
                  all_goals
                    rw [cup] at hc
                    clear cup
                    go_wp2
                    go_round
                    case rel => exact ⟨k + 1, x - 1, x - 1, ⟨0, ks, false, false⟩, by omega, rfl, rfl, rfl, rfl, by go_num, HN.out, by simp only; omega, by omega, by omega, by omega⟩
                    case measure => simp [intOf]; omega
                · have e0 : (if 0 < d - 1 then d - 1 else 0) = d - 1 := by split <;> omega
                  rw [e0] at HN
                  clear e0
                  rcases cdn with cup | cup
                  all_goals
                    rw [cup] at hc
                    clear cup
                    go_wp2
                    go_round
                    case rel => exact ⟨k + 1, x - 1, low, ⟨d - 1, ks, false, false⟩, by omega, rfl, rfl, rfl, rfl, by go_num, HN.out, by simp only; omega, by omega, by omega, by omega⟩
                    case measure => simp [intOf]; omega
              · by_cases ck : Z k = 58
                · by_cases ht : 0 < K ∧ K < ks + 1
                  · have HN : Hid (o = .tuple #[.bool true, .int .u8 6, .int .i64 0, .int .i64 0, .bool false, .bool false]) := by show o = _; rw [← HO.out, run_trip (s_key_trip HR.out ck ht) len (by omega)]; rfl
                    obtain ⟨t1, t2⟩ := ht
                    clear HR HI c34 hrow' cup cdn
                    rw [ck] at hc
                    clear ck
                    go_wp2
                    exact bodyPost_ret (v := .tuple #[.bool true, .int .u8 6, .int .i64 0, .int .i64 0, .bool false, .bool false]) (by simp [results, Trym.results16, go_sem]) rfl ⟨by rw [HN.out], rfl⟩
                  · have HN : Hid (run Z D K (k + 1) = .inl ⟨d, ks + 1, false, false⟩) := s_key HR.out ck ht
                    clear HR HI c34 hrow' cup cdn
                    rw [ck] at hc
                    clear ck
                    by_cases t1 : 0 < K
                    · have t3 : ¬ K < ks + 1 := by omega
                      clear ht
                      go_wp2
                      go_round
                      case rel => exact ⟨k + 1, x, low, ⟨d, ks + 1, false, false⟩, by omega, rfl, rfl, rfl, rfl, by go_num, HN.out, by simp only; omega, by omega, by omega, by omega⟩
                      case measure => simp [intOf]; omega
                    · have t1' : decide (0 < K) = false := by simpa using t1
                      clear ht
                      go_wp2
                      go_round
                      case rel => exact ⟨k + 1, x, low, ⟨d, ks + 1, false, false⟩, by omega, rfl, rfl, rfl, rfl, by go_num, HN.out, by simp only; omega, by omega, by omega, by omega⟩
                      case measure => simp [intOf]; omega
                · have HN : Hid (run Z D K (k + 1) = .inl ⟨d, ks, false, false⟩) := s_other HR.out c34 (by omega) (by omega) (by omega) (by omega) ck
                  have q1 : (Z k == 34) = false := by simp [c34]
                  have q2 : (Z k == 91) = false := by simp; omega
                  have q3 : (Z k == 123) = false := by simp; omega
                  have q4 : (Z k == 93) = false := by simp; omega
                  have q5 : (Z k == 125) = false := by simp; omega
                  have q6 : (Z k == 58) = false := by simp [ck]
                  clear HR HI c34 hrow' cup cdn ck
                  go_wp2
                  go_round
                  case rel => exact ⟨k + 1, x, low, ⟨d, ks, false, false⟩, by omega, rfl, rfl, rfl, rfl, by go_num, HN.out, by simp only; omega, by omega, by omega, by omega⟩
                  case measure => simp [intOf]; omega
      · obtain rfl : k = len := by omega
        have HN : Hid (o = .tuple #[.bool false, .int .u8 0, .int .i64 (x - low), .int .i64 ks, .bool ins, .bool esc]) := by
          show o = _
          rw [← HO.out, HR.out]
          show Value.tuple #[.bool false, .int .u8 0, .int .i64 d, .int .i64 ks, .bool ins, .bool esc] = _
          rw [show d = x - low from by omega]
        clear HR hcell hZ
        cases ins with
        | false =>
          obtain rfl : esc = false := by simpa using HI.out
          clear HI hrow'
          simp only
          go_wp2
          exact bodyPost_ret (v := .tuple #[.bool false, .int .u8 0, .int .i64 (x - low), .int .i64 ks, .bool false, .bool false]) (by simp [results, Trym.results16, go_sem]) rfl ⟨by rw [HN.out], rfl⟩
        | true =>
          simp only
          cases hesc : esc with
          | false =>
            subst hesc
            have hb' : (((backs Z k : Nat) : Int) % 2 == 1) = false := by have := HI.out; simp at this; simp; omega
            clear HI
            go_wp2_with fail
            refine (backs22 _ k cap k Z _ hrow' (by omega) hl).mono ?_
            rintro e w1 ⟨rfl, hw⟩
            subst hw
            go_wp2
            exact bodyPost_ret (v := .tuple #[.bool false, .int .u8 0, .int .i64 (x - low), .int .i64 ks, .bool true, .bool false]) (by simp [results, Trym.results16, go_sem]) rfl ⟨by rw [HN.out], rfl⟩
          | true =>
            subst hesc
            have hb' : (((backs Z k : Nat) : Int) % 2 == 1) = true := by have := HI.out; simp at this; simp; omega
            clear HI
            go_wp2_with fail
            refine (backs22 _ k cap k Z _ hrow' (by omega) hl).mono ?_
            rintro e w1 ⟨rfl, hw⟩
            subst hw
            go_wp2
            exact bodyPost_ret (v := .tuple #[.bool false, .int .u8 0, .int .i64 (x - low), .int .i64 ks, .bool true, .bool true]) (by simp [results, Trym.results16, go_sem]) rfl ⟨by rw [HN.out], rfl⟩
end Go.Proofs.Qxb6600514aMods.Sc
