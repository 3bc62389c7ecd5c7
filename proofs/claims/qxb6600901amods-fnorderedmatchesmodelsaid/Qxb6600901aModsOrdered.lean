import Derived.Test.Qxb6600901aModsSet
namespace Go.Proofs.Qxb6600901aMods.Od
open Go.ChangeShapes Go.WideShapes Go.ChangeAt Go.RowKit Go.Maps
open Go.ChangeMaps Go.WideMaps Go.WideElems

/-! ### The list that both roads build: no Go in sight -/
def L1 (I O : Nat → ByteArray) (n : Nat) : Nat → List ByteArray
  | 0 => []
  | k + 1 => if (has I (O k) n && !has O (O k) k) = true then L1 I O n k ++ [O k] else L1 I O n k
def L2 (I O : Nat → ByteArray) (n m : Nat) : Nat → List ByteArray
  | 0 => L1 I O n m
  | j + 1 => if has O (I j) m = false then L2 I O n m j ++ [I j] else L2 I O n m j
theorem L1_le (I O : Nat → ByteArray) (n k : Nat) : (L1 I O n k).length ≤ k := by
  induction k with
  | zero => simp [L1]
  | succ k ih =>
    unfold L1
    split
    · simp; omega
    · omega
theorem L2_le (I O : Nat → ByteArray) (n m j : Nat) : (L2 I O n m j).length ≤ m + j := by
  induction j with
  | zero => exact L1_le I O n m
  | succ j ih =>
    unfold L2
    split
    · simp; omega
    · omega
theorem has_self (S : Nat → ByteArray) (n : Nat) : ∀ j, j < n → has S (S j) n = true := by
  induction n with
  | zero => intro j h; omega
  | succ n ih =>
    intro j h
    by_cases e : j = n
    · subst e; simp [has]
    · simp [has, ih j (by omega)]
/-- The set behind k names: the items that the first k names do not name. -/
def Mk (I O : Nat → ByteArray) (n k : Nat) (s : ByteArray) : Bool := has I s n && !has O s k
theorem Mk_hit (I O : Nat → ByteArray) (n k : Nat) (s : ByteArray) : (Mk I O n k s && !decide (O k = s)) = Mk I O n (k + 1) s := by
  simp only [Mk, has, toList_beq]
  cases has I s n <;> cases has O s k <;> simp
theorem Mk_miss (I O : Nat → ByteArray) (n k : Nat) (h : Mk I O n k (O k) = false) (s : ByteArray) : Mk I O n k s = Mk I O n (k + 1) s := by
  rw [← Mk_hit]
  by_cases e : O k = s
  · subst e; simp [h]
  · simp [e]

theorem L1_hit {I O : Nat → ByteArray} {n k : Nat} (h : Mk I O n k (O k) = true) : L1 I O n (k + 1) = L1 I O n k ++ [O k] := by
  rw [L1, if_pos (by exact h)]
theorem L1_miss {I O : Nat → ByteArray} {n k : Nat} (h : Mk I O n k (O k) = false) : L1 I O n (k + 1) = L1 I O n k := by
  rw [L1, if_neg (by have h' : (has I (O k) n && !has O (O k) k) = false := h; rw [h']; simp)]
theorem Mk_item {I O : Nat → ByteArray} {n m j : Nat} (h : j < n) : Mk I O n m (I j) = !has O (I j) m := by
  simp [Mk, has_self I n j h]
theorem L2_hit {I O : Nat → ByteArray} {n m j : Nat} (h : has O (I j) m = false) : L2 I O n m (j + 1) = L2 I O n m j ++ [I j] := by
  rw [L2, if_pos h]
theorem L2_miss {I O : Nat → ByteArray} {n m j : Nat} (h : has O (I j) m = true) : L2 I O n m (j + 1) = L2 I O n m j := by
  rw [L2, if_neg (by rw [h]; simp)]

/-! ### A list of strings of the call's own -/
def Lst (w : World) (base : Nat) (v : Value) (xs : List ByteArray) : Prop := w.ownsRow base 9 1 v xs.length (xs.map Value.string)
theorem Lst.alloc {w : World} {base : Nat} {v : Value} {xs : List ByteArray} (h : Lst w base v xs) (o : Obj) : Lst (w.alloc o) base v xs := World.ownsRow.alloc h o
theorem Lst.kept {w w' : World} {base b : Nat} {v : Value} {xs : List ByteArray} (h : Lst w base v xs) (hg : w.grownBy w' (some b)) (hb : b < base) : Lst w' base v xs := by
  refine World.ownsRow.kept h hg ?_
  cases hv : v.ownBlock with
  | none => exact .inl rfl
  | some g =>
    have := (World.ownsRow.lt h g hv).1
    exact .inr (fun e => by injection e with e; omega)
theorem wpList_push (w : World) {ops : Array Oper} {rest : List Oper} {o : Oper} {a : Act} {Q : Exit → Act → World → Prop} (hgd : o.guard = none) (s x : Operand)
    (ho : o.op = .call { callee := .builtin .append, args := #[s, x], argTypes := #[22, 22] }) (base : Nat) (v : Value) (xs : List ByteArray) (hs : a.eval s = v) (hown : Lst w base v xs)
    (g : Nat) (t : ByteArray) (hx : a.eval x = .slice (some ⟨g, 0, none⟩) 1 1) (hc : w.cell? ⟨g, 0, none⟩ = some (.string t)) (hlen : xs.length ≤ 100000) (hbase : base ≤ w.heap.size)
    (h : ∀ v' w', Lst w' base v' (xs ++ [t]) → w.grownBy w' v.ownBlock → wpList Trym.prog ops Q rest (a.put o.dst v') w') : wpList Trym.prog ops Q (o :: rest) a w := by
  obtain ⟨i0, hi, hz0, hz1, hz2⟩ := info_parts info9
  refine wpList_append_own w hgd s x 22 ho base 9 i0 _ 1 16 Trym.underlying22 hi hz0 hz1 hz2 rfl (by decide) v xs.length (xs.map Value.string) hs hown ⟨g, 0, none⟩ 1 1 [.string t] hx rfl ?_ ?_ (by unfold maxLen; omega) (by omega) hbase ?_
  · intro j u hj
    match j, hj with
    | 0, hj => simp at hj; subst hj; simpa [Addr.add] using hc
  · intro u hu
    simp at hu
    subst hu
    rfl
  · intro v' w' h1 h2 _
    refine h v' w' ?_ h2
    unfold Lst
    rw [List.length_append, List.map_append]
    exact h1

/-- What 'ordered' holds in mid-walk: w the world of its call, whose first new block is the set's. -/
structure R1 (w wr : World) (base : Nat) (v : Value) (xs : List ByteArray) (n : Nat) (M : ByteArray → Bool) : Prop where
  own : Lst wr base v xs
  set : SetM wr w.heap.size n M
  below : Below w.heap.size w wr
  size : base ≤ wr.heap.size
  high : w.heap.size < base
theorem R1.pushed {w wr w1 w2 : World} {base n : Nat} {v v' : Value} {xs : List ByteArray} {M M' : ByteArray → Bool} {t : ByteArray} {o : Obj} (r : R1 w wr base v xs n M) (ht : wr.grownBy w1 (some w.heap.size)) (hs : SetM w1 w.heap.size n M')
    (hl : Lst w2 base v' (xs ++ [t])) (hg : (w1.alloc o).grownBy w2 v.ownBlock) : R1 w w2 base v' (xs ++ [t]) n M' := by
  have hl1 : Lst (w1.alloc o) base v xs := (r.own.kept ht r.high).alloc o
  have hge : ∀ k, v.ownBlock = some k → base ≤ k := fun k hk => (World.ownsRow.lt hl1 k hk).1
  have hne : some w.heap.size ≠ v.ownBlock := fun e => by have := hge _ e.symm; have := r.high; omega
  have b1 : Below w.heap.size w w1 := r.below.grown ht r.below.size (fun j hj => by injection hj with hj; omega)
  have b2 : Below w.heap.size w (w1.alloc o) := b1.alloc b1.size o
  refine ⟨hl, (hs.kept (World.grownBy_alloc w1 o none) (by simp)).kept hg hne, b2.grown hg b2.size (fun k hk => by have := hge k hk; have := r.high; omega), ?_, r.high⟩
  have := hg.size
  have := ht.size
  have := r.size
  have : (w1.alloc o).heap.size = w1.heap.size + 1 := by simp
  omega
theorem R1.miss {w wr : World} {base n k : Nat} {v : Value} {I O : Nat → ByteArray} (r : R1 w wr base v (L1 I O n k) n (Mk I O n k)) (h : Mk I O n k (O k) = false) : R1 w wr base v (L1 I O n (k + 1)) n (Mk I O n (k + 1)) := by
  rw [L1_miss h]
  exact ⟨r.own, r.set.congr (Mk_miss I O n k h), r.below, r.size, r.high⟩
theorem R1.skip {w wr : World} {base n m j : Nat} {v : Value} {I O : Nat → ByteArray} (r : R1 w wr base v (L2 I O n m j) n (Mk I O n m)) (h : has O (I j) m = true) : R1 w wr base v (L2 I O n m (j + 1)) n (Mk I O n m) := by
  rw [L2_miss h]
  exact r
theorem turned_refl {wr : World} {b n : Nat} {M : ByteArray → Bool} (h : SetM wr b n M) : wr.grownBy wr (some b) := by
  obtain ⟨D, h1, _⟩ := h
  exact h1.turned_refl.grown
theorem mk0 (n : Nat) (hb : n ≤ 4096) (w : World) :
    (Instr.makeSlice 22 (.int .i64 0) (.int .i64 n)).run Trym.prog w = .ok (.slice (some ⟨w.heap.size, 0, none⟩) 0 n) (w.alloc (.cells (madeCells #[.string ByteArray.empty] n) 9)) := by
  obtain ⟨i, hi, hz0, hz1, hz2⟩ := info_parts info9
  have h := run_make (P := Trym.prog) w 22 9 i _ Trym.underlying22 hi hz0 .i64 .i64 0 n (by omega) (by omega) (by rw [hz2]; omega) (by omega)
  rw [hz1] at h
  simpa [Value.cells] using h
theorem Lst.made (w : World) (n : Nat) (hn : n ≤ 4096) : Lst (w.alloc (.cells (madeCells #[.string ByteArray.empty] n) 9)) w.heap.size (.slice (some ⟨w.heap.size, 0, none⟩) 0 n) [] :=
  World.ownsRow_made w _ n (Nat.le_refl _) (by unfold maxLen; omega) (by rw [size_madeCells]; omega)
theorem Mk_zero (I O : Nat → ByteArray) (n : Nat) (s : ByteArray) : has I s n = Mk I O n 0 s := by simp [Mk, has]

/-- What 'ordered' and the model leave. -/
def Listed (e : Ending) (w w' : World) (xs : List ByteArray) : Prop :=
  ∃ v, e = .returned v ∧ Lst w' w.heap.size v xs ∧ Below w.heap.size w w'
theorem Lst.low {w : World} {base base' : Nat} {v : Value} {xs : List ByteArray} (h : Lst w base v xs) (hb : base' ≤ base) : Lst w base' v xs := by
  refine ⟨h.1, ?_⟩
  rcases h.2 with h' | ⟨g, cap, cur, h1, h2, h3⟩
  · exact .inl h'
  · exact .inr ⟨g, cap, cur, h1, by omega, h3⟩

set_option maxRecDepth 100000 in
set_option maxHeartbeats 2000000 in
theorem ordered14 (a b : Option Addr) (n m c d : Nat) (I O : Nat → ByteArray) (w : World) (hI : Row w a n I) (hO : Row w b m O) (hSI : ∀ k, (I k).size ≤ maxLen) (hSO : ∀ k, (O k).size ≤ maxLen) (hn : n ≤ 4096) (hm : m ≤ 4096) :
    Calls Trym.prog 14 #[.slice a n c, .slice b m d] w fun e w' => Listed e w w' (L2 I O n m n) := by
  have km := mk0 n hn
  go_enter Trym.func14, Trym.ntmps14
  go_wp2_with fail
  refine (setOf16 a n c I _ hI hSI hn).mono ?_
  rintro e w1 ⟨rfl, hset, hb1⟩
  have hw1 : w.heap.size < w1.heap.size := hset.lt
  obtain ⟨base, r0⟩ : ∃ base, R1 w (w1.alloc (.cells (madeCells #[.string ByteArray.empty] n) 9)) base (.slice (some ⟨w1.heap.size, 0, none⟩) 0 n) (L1 I O n 0) n (Mk I O n 0) :=
    ⟨w1.heap.size, Lst.made w1 n hn, (hset.kept (World.grownBy_alloc w1 _ none) (by simp)).congr (Mk_zero I O n), hb1.alloc hb1.size _, by simp, hw1⟩
  clear hset hb1
  go_wp2
  go_loopw [6, 18] (fun v i wr => ∃ k : Nat, k ≤ m ∧ i = .int .i64 k ∧ R1 w wr base v (L1 I O n k) n (Mk I O n k)) (fun _ i _ => m - (intOf i).toNat)
  case atStart => exact ⟨0, Nat.zero_le _, rfl, r0⟩
  case round =>
    obtain ⟨k, hk, rfl, r⟩ := hrel
    clear r0 km
    by_cases hlt : k < m
    · obtain ⟨ob, off, rfl, hc0⟩ := hO.at hlt
      have hc : wr.cell? ⟨ob, off + k, none⟩ = some (.string (O k)) := (r.below.cell (World.block_lt_of_cell? _ _ hc0)).trans hc0
      have hlook := r.set.look (O k) (hSO k)
      have hkey := keyOf_string_mk Trym.underlying9 (hSO k)
      have hle := L1_le I O n k
      clear hc0
      by_cases hM : Mk I O n k (O k) = true
      · rw [hM] at hlook
        have HL : Hid (L1 I O n (k + 1) = L1 I O n k ++ [O k]) := L1_hit hM
        obtain ⟨D, hown, hat⟩ := r.set
        clear hM
        go_wp2_with (at_delete; refine wpList_delete_own _ rfl _ _ 28 9 rfl 4 law Trym.underlying28 _ w.heap.size n D rfl hown _ _ rfl hkey ?_)
        intro w2 hown2 hturn2
        have ht := hturn2.grown
        have hs2 : SetM w2 w.heap.size n (Mk I O n (k + 1)) := ⟨_, hown2, fun s => by rw [del_at hat, Mk_hit]⟩
        have hl2 : Lst w2 base _ (L1 I O n k) := r.own.kept ht r.high
        have hb2 : base ≤ w2.heap.size := Nat.le_trans r.size ht.size
        clear hown2 hturn2 hown hat hlook hkey hc
        go_wp2_with (at_builtin; refine wpList_push _ rfl _ _ rfl base _ (L1 I O n k) rfl (hl2.alloc _) w2.heap.size (O k) rfl (by simp) (by omega) (by simp; omega) ?_)
        intro v' w3 hl3 hg3
        have r3 : R1 w w3 base v' (L1 I O n (k + 1)) n (Mk I O n (k + 1)) := by rw [HL.out]; exact r.pushed ht hs2 hl3 hg3
        clear hl3 hg3 hl2 hs2 ht r HL hb2
        go_wp2
        go_roundw
        case rel => exact ⟨k + 1, by omega, by go_num, r3⟩
        case measure => simp [intOf]; omega
      · have hM' : Mk I O n k (O k) = false := by simpa using hM
        rw [hM'] at hlook
        have r3 := r.miss hM'
        clear hM hM' hkey r
        go_wp2
        go_roundw
        case rel => exact ⟨k + 1, by omega, by go_num, r3⟩
        case measure => simp [intOf]; omega
    · obtain rfl : k = m := by omega
      obtain ⟨wq, rfl⟩ : ∃ wq : World, wq = wr := ⟨_, rfl⟩
      go_wp2
      go_loopw [6, 34] (fun v i wr => ∃ j : Nat, j ≤ n ∧ i = .int .i64 j ∧ R1 w wr base v (L2 I O n k j) n (Mk I O n k)) (fun _ i _ => n - (intOf i).toNat)
      case atStart => exact ⟨0, Nat.zero_le _, rfl, r⟩
      case round =>
        obtain ⟨j, hj, rfl, r2⟩ := hrel
        clear r
        by_cases hltj : j < n
        · obtain ⟨ib, off, rfl, hc0⟩ := hI.at hltj
          have hc : wr.cell? ⟨ib, off + j, none⟩ = some (.string (I j)) := (r2.below.cell (World.block_lt_of_cell? _ _ hc0)).trans hc0
          have hlook := r2.set.look (I j) (hSI j)
          have hle := L2_le I O n k j
          have ht := turned_refl r2.set
          have hl2 := r2.own
          have hb2 := r2.size
          clear hc0
          rw [Mk_item hltj] at hlook
          by_cases hM : has O (I j) k = true
          · rw [hM] at hlook
            have r3 := r2.skip hM
            have hlook' : (Instr.lookup 28 (.map (some w.heap.size)) (.string (I j)) false).run Trym.prog wr = .ok (.bool false) wr := hlook
            clear hM hlook r2 ht hl2
            go_wp2
            go_roundw
            case rel => exact ⟨j + 1, by omega, by go_num, r3⟩
            case measure => simp [intOf]; omega
          · have hM' : has O (I j) k = false := by simpa using hM
            rw [hM'] at hlook
            have hlook' : (Instr.lookup 28 (.map (some w.heap.size)) (.string (I j)) false).run Trym.prog wr = .ok (.bool true) wr := hlook
            have HL : Hid (L2 I O n k (j + 1) = L2 I O n k j ++ [I j]) := L2_hit hM'
            clear hM hM' hlook
            go_wp2_with (at_builtin; refine wpList_push _ rfl _ _ rfl base _ (L2 I O n k j) rfl (hl2.alloc _) wr.heap.size (I j) rfl (by simp) (by omega) (by simp; omega) ?_)
            intro v' w3 hl3 hg3
            have r3 : R1 w w3 base v' (L2 I O n k (j + 1)) n (Mk I O n k) := by rw [HL.out]; exact r2.pushed ht r2.set hl3 hg3
            clear hl3 hg3 hl2 ht r2 HL hb2 hlook' hc
            go_wp2
            go_roundw
            case rel => exact ⟨j + 1, by omega, by go_num, r3⟩
            case measure => simp [intOf]; omega
        · obtain rfl : j = n := by omega
          go_wp2
          go_ret
          exact ⟨_, rfl, r2.own.low (Nat.le_of_lt r2.high), r2.below⟩
end Go.Proofs.Qxb6600901aMods.Od
