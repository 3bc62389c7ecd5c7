import Derived.Test.Qxb6600901aModsParts
import Derived.Maps.OwnSet
import Derived.Maps.OwnOps
namespace Go.Proofs.Qxb6600901aMods.Od
open Go.ChangeShapes Go.WideShapes Go.ChangeAt Go.RowKit Go.Maps
open Go.ChangeMaps Go.WideMaps Go.WideElems

/-! ### A map[string]bool of the call's own, as a set of strings -/
theorem toList_beq (a b : ByteArray) : (a.toList == b.toList) = decide (a = b) := by
  by_cases h : a = b
  · subst h; simp
  · have : a.toList ≠ b.toList := fun e => h (bytes_inj (by rw [← ByteArray.toList_eq, ← ByteArray.toList_eq]; exact e))
    simp [h, this]
theorem law : Keyed Trym.prog 9 := string_keyed Trym.underlying9
theorem zeroE (w : World) : (zeroValue 4).run Trym.prog w = .ok (.bool false) w := by kernel_rfl
theorem plainElem_bool_inv {e : TypeId} (he : Trym.prog.underlying e = some .bool) {v : Value} {z : DataW Unit × List MemPlace} (h : plainElem Trym.prog e v = some z) : ∃ x, v = .bool x ∧ z = (.lit (.bool x), []) := by
  unfold plainElem at h
  rw [he] at h
  cases v <;> simp at h
  exact ⟨_, rfl, h.symm⟩
/-- Block b holds a map of at most n entries; at the key s it says M s. -/
def SetM (w : World) (b n : Nat) (M : ByteArray → Bool) : Prop :=
  ∃ D : DataW Unit, w.ownsMap Trym.prog 9 (plainElem Trym.prog 4) b n D ∧ ∀ s : ByteArray, D.atKey (.string s.data.toList) (.lit (.bool false)) = .lit (.bool (M s))
theorem SetM.made (w : World) : SetM (w.alloc (.map #[] 0)) w.heap.size 0 (fun _ => false) :=
  ⟨.map [], World.ownsMap_made _ _ _ _, fun _ => rfl⟩
theorem SetM.lt {w : World} {b n : Nat} {M : ByteArray → Bool} (h : SetM w b n M) : b < w.heap.size := by
  obtain ⟨D, h1, _⟩ := h
  exact h1.lt
theorem SetM.mono {w : World} {b n n' : Nat} {M : ByteArray → Bool} (h : SetM w b n M) (hn : n ≤ n') : SetM w b n' M := by
  obtain ⟨D, h1, h2⟩ := h
  exact ⟨D, h1.mono hn, h2⟩
theorem SetM.congr {w : World} {b n : Nat} {M M' : ByteArray → Bool} (h : SetM w b n M) (hm : ∀ s, M s = M' s) : SetM w b n M' := by
  obtain rfl : M = M' := funext hm
  exact h
theorem SetM.kept {w w' : World} {row : Option Nat} {b n : Nat} {M : ByteArray → Bool} (h : SetM w b n M) (hg : w.grownBy w' row) (hne : some b ≠ row) : SetM w' b n M := by
  obtain ⟨D, h1, h2⟩ := h
  exact ⟨D, h1.kept hg hne, h2⟩
theorem SetM.look {w : World} {b n : Nat} {M : ByteArray → Bool} (h : SetM w b n M) (s : ByteArray) (hs : s.size ≤ maxLen) :
    (Instr.lookup 28 (.map (some b)) (.string s) false).run Trym.prog w = .ok (.bool (M s)) w := by
  obtain ⟨D, h1, h2⟩ := h
  obtain ⟨v, ps, hrun, hv⟩ := h1.lookup law Trym.underlying28 (zeroE w) (plainElem_bool Trym.underlying4 false) (keyOf_string_mk Trym.underlying9 hs)
  obtain ⟨x, rfl, hx⟩ := plainElem_bool_inv Trym.underlying4 hv
  simp only [Prod.mk.injEq] at hx
  rw [h2 s] at hx
  have : M s = x := by have := hx.1; injection this with this; injection this
  rw [this]
  exact hrun
theorem put_at {D : DataW Unit} {M : ByteArray → Bool} (hD : IsMap D) (h : ∀ s : ByteArray, D.atKey (.string s.data.toList) (.lit (.bool false)) = .lit (.bool (M s))) (t : ByteArray) (s : ByteArray) :
    (D.put (.string t.data.toList) (.lit (.bool true))).atKey (.string s.data.toList) (.lit (.bool false)) = .lit (.bool (M s || decide (t = s))) := by
  by_cases e : t = s
  · subst e
    rw [atKey_put_same hD (by exact trivial)]
    simp
  · rw [atKey_put_other (fun c => e (by injection c with c; exact (bytes_inj c).symm)), h s]
    simp [e]
theorem del_at {D : DataW Unit} {M : ByteArray → Bool} (h : ∀ s : ByteArray, D.atKey (.string s.data.toList) (.lit (.bool false)) = .lit (.bool (M s))) (t : ByteArray) (s : ByteArray) :
    (D.del (.string t.data.toList)).atKey (.string s.data.toList) (.lit (.bool false)) = .lit (.bool (M s && !decide (t = s))) := by
  by_cases e : t = s
  · subst e
    rw [atKey_del_same]
    simp
  · rw [atKey_del_other (fun c => e (by injection c with c; exact (bytes_inj c).symm)), h s]
    simp [e]
theorem run_makeMap_hint (n : Int) (w : World) : (Instr.makeMap 28 (some (.int .i64 n))).run Trym.prog w = .ok (.map (some w.heap.size)) (w.alloc (.map #[] 0)) := by
  simp [Instr.makeMap, run_underlying Trym.underlying28, asInt, asIntOf]
/-- What setOf leaves. -/
def SetOf (e : Ending) (w w' : World) (n : Nat) (I : Nat → ByteArray) : Prop :=
  e = .returned (.map (some w.heap.size)) ∧ SetM w' w.heap.size n (fun s => has I s n) ∧ Below w.heap.size w w'
set_option maxHeartbeats 1000000 in
theorem setOf16 (a : Option Addr) (n c : Nat) (I : Nat → ByteArray) (w : World) (hI : Row w a n I) (hS : ∀ k, (I k).size ≤ maxLen) (hn : n ≤ 4096) :
    Calls Trym.prog 16 #[.slice a n c] w fun e w' => SetOf e w w' n I := by
  have hmm := run_makeMap_hint
  go_enter Trym.func16, Trym.ntmps16
  go_wp2
  go_loopw [11] (fun i wr => ∃ k : Nat, k ≤ n ∧ i = .int .i64 k ∧ SetM wr w.heap.size k (fun s => has I s k) ∧ Below w.heap.size w wr) (fun i _ => n - (intOf i).toNat)
  case atStart => exact ⟨0, Nat.zero_le _, rfl, SetM.made w, (Below.refl _ _).alloc (Nat.le_refl _) _⟩
  case round =>
    obtain ⟨k, hk, rfl, hset, hbel⟩ := hrel
    by_cases hlt : k < n
    · obtain ⟨b, off, rfl, hc⟩ := hI.at hlt
      have hc' : wr.cell? ⟨b, off + k, none⟩ = some (.string (I k)) := (hbel.cell (World.block_lt_of_cell? _ _ hc)).trans hc
      have hkey := keyOf_string_mk Trym.underlying9 (hS k)
      obtain ⟨D, hown, hat⟩ := hset
      clear hI hc hmm
      go_wp2_with (at_mapUpdate; refine wpList_mapUpdate_own _ rfl _ _ _ 28 rfl 9 4 law Trym.underlying28 _ w.heap.size k _ rfl hown (by unfold maxLen; omega) _ _ _ rfl rfl hkey _ [] (plainElem_bool Trym.underlying4 true) ?_)
      intro w1 hown1 hgrow1
      have hset1 : SetM w1 w.heap.size (k + 1) (fun s => has I s (k + 1)) := ⟨_, hown1, fun s => by rw [put_at (hown.tidy law).isMap hat]; simp [has, toList_beq]⟩
      have hbel1 : Below w.heap.size w w1 := hbel.grown hgrow1 hbel.size (fun j hj => by cases hj; exact Nat.le_refl _)
      clear hown1 hgrow1 hown hat hbel hc' hkey
      go_wp2
      go_roundw
      case rel => exact ⟨k + 1, by omega, by go_num, hset1, hbel1⟩
      case measure => simp [intOf]; omega
    · obtain rfl : k = n := by omega
      clear hmm
      go_wp2
      go_ret
      exact ⟨rfl, hset, hbel⟩
end Go.Proofs.Qxb6600901aMods.Od
