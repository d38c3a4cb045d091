/-
  The walks of the laws FnSearchAsked, FnSearchAsksFew and FnFindAsked: closures that append what they are asked for to a variable of their own.
-/
import Derived.Test.YtkadfmndnnpglaaFnd
import Derived.Test.YtkadfmndnnpglaaSrchFrom
import Derived.OneCell
namespace Go.Proofs.Ytkadfmndnnpglaa
open Go.RowKit Go.Proofs
set_option linter.unusedVariables false

theorem int_info : (Try.prog.info? 3).map (fun i => (i.zero, i.size, i.bytes)) = some (some (.int .i64 0), 1, 8) := by kernel_rfl

/-- The numbers of a list as cells. -/
def nums (l : List Nat) : List Value := l.map fun i : Nat => Value.int .i64 (i : Int)

/-- From the world w1 on: its next block is the variable with the list, which owns its row; nothing else that was there has changed. -/
def AskR (w1 : World) (l : List Nat) (W : World) : Prop :=
  Below w1.heap.size w1 W ∧ ∃ v, W.heap[w1.heap.size]? = some (.cells #[v] 27 (0, 0)) ∧ W.ownsRow (w1.heap.size + 1) 3 1 v l.length (nums l)

theorem askR_start (w1 : World) : AskR w1 [] (w1.alloc (.cells #[.slice none 0 0] 27)) :=
  ⟨(Below.refl _ _).alloc (Nat.le_refl _) _, _, heap_alloc_new w1 _, World.ownsRow_nil _ _ _ _⟩

/-- Behind the append and the store back. -/
theorem askR_step {w1 W W2 : World} {l : List Nat} {i : Nat} {v v' : Value} {o : Obj} (hb : Below w1.heap.size w1 W) (hg : W.heap[w1.heap.size]? = some (.cells #[v] 27 (0, 0))) (ho : W.ownsRow (w1.heap.size + 1) 3 1 v l.length (nums l))
    (ho2 : W2.ownsRow (w1.heap.size + 1) 3 1 v' (l.length + 1) (nums l ++ [.int .i64 (i : Int)])) (hgr : (W.alloc o).grownBy W2 v.ownBlock) : AskR w1 (l ++ [i]) (W2.setCell ⟨w1.heap.size, 0, none⟩ v') := by
  have hlt := lt_of_block hg
  have hne : ∀ k, v.ownBlock = some k → w1.heap.size + 1 ≤ k := fun k hk => (ho.lt k hk).1
  have hb2 : Below w1.heap.size w1 W2 := (hb.alloc hb.size o).grown hgr (by simp; omega) (fun k hk => by have := hne k hk; omega)
  have hg2 : W2.heap[w1.heap.size]? = some (.cells #[v] 27 (0, 0)) := by
    rw [hgr.block _ (by simp; omega) (fun e => by have := hne _ e.symm; omega), Below.heap_alloc _ _ _ hlt]; exact hg
  refine ⟨hb2.setCell (p := ⟨w1.heap.size, 0, none⟩) (Nat.le_refl _) _, v', one_setCell hg2, ?_⟩
  have := ownsRow_setCell_below ho2 (a := ⟨w1.heap.size, 0, none⟩) (Nat.lt_succ_self _) v'
  simpa [nums] using this

set_option maxHeartbeats 1000000 in
theorem searchAsked1 (i : Nat) (k : Int) (b : Nat) (l : List Nat) (w1 W : World) (hl : l.length ≤ 1000) (hc : w1.cell? ⟨b, 0, none⟩ = some (.int .i64 k)) (hR : AskR w1 l W) :
    Calls Try.prog 44 (#[.int .i64 i] ++ #[.pointer (some ⟨w1.heap.size, 0, none⟩), .pointer (some ⟨b, 0, none⟩)]) W fun e w' => e = .returned (.bool (decide (k ≤ (i : Int)))) ∧ AskR w1 (l ++ [i]) w' := by
  obtain ⟨i0, hi0, hz0, hz1, hz2⟩ := info_parts int_info
  obtain ⟨hb, v, hg, ho⟩ := hR
  have hlt := lt_of_block hg
  have hv := cell_of_one hg
  have hbl : b < w1.heap.size := World.block_lt_of_cell? _ _ hc
  have HB := Lib.hid hb; have HG := Lib.hid hg; have HO := Lib.hid ho
  clear hb hg ho
  go_enter Try.func44, Try.ntmps44
  go_wp2_with (at_builtin; refine wpList_append_own _ rfl _ _ 27 rfl (w1.heap.size + 1) 3 i0 (.int .i64 0) 1 8 Try.underlying27 hi0 hz0 hz1 hz2 rfl (by decide) _ _ _ rfl (HO.out.alloc _) ⟨W.heap.size, 0, none⟩ 1 1 [.int .i64 (i : Int)] rfl rfl ?c1 ?c2 ?c3 ?c4 ?c5 ?_)
  case c1 => exact cell_one_new _ _ _
  case c2 => simp [Value.oneCell']
  case c3 => simp only [maxLen]; omega
  case c4 => omega
  case c5 => simp; omega
  intro v' W2 ho2 hg2 _
  obtain ⟨gv, cv, hv', _⟩ := ho2.form (by omega)
  rw [hv'] at ho2 ⊢
  clear hv'
  have hA := askR_step HB.out HG.out HO.out ho2 hg2
  have hne : ∀ k, v.ownBlock = some k → w1.heap.size + 1 ≤ k := fun k hk => (HO.out.lt k hk).1
  have hgg : W2.heap[w1.heap.size]? = some (.cells #[v] 27 (0, 0)) := by
    rw [hg2.block _ (by simp; omega) (fun e => by have := hne _ e.symm; omega), Below.heap_alloc _ _ _ hlt]; exact HG.out
  have c0 := cell_of_one hgg
  have c1 := free_of_one hgg
  have ck : (W2.setCell ⟨w1.heap.size, 0, none⟩ (.slice (some ⟨gv, 0, none⟩) (l.length + 1) cv)).cell? ⟨b, 0, none⟩ = some (.int .i64 k) := (hA.1.cell (p := ⟨b, 0, none⟩) hbl).trans hc
  have HA := Lib.hid hA
  clear hA hgg hg2 ho2 hne
  go_wp2_with fail
  go_ret
  exact ⟨rfl, HA.out⟩

theorem enters_asked : ∀ args w, (callFunc 44 args).run Try.prog w = .ok (.enter 44 args) w := enters_of Try.func44 (by kernel_rfl) rfl

/-- A list of the call's own that holds these numbers. -/
def Asks (w : World) (l : List Nat) (e : Ending) (w' : World) : Prop := ∃ v, e = .returned v ∧ w'.ownsRow w.heap.size 3 1 v l.length (nums l) ∧ Below w.heap.size w w'

theorem srch_short (p : Nat → Bool) (n : Nat) (hn : n < 9223372036854775808) {l : List Nat} (h : ∃ t, (srch p n 0 n []).2 = l ++ t) : l.length ≤ 63 := by
  obtain ⟨t, ht⟩ := h
  have := srch_few p 63 n 0 n [] (by omega)
  rw [ht] at this
  simp at this; omega

set_option maxHeartbeats 1000000 in
theorem searchAsked (n : Nat) (k : Int) (w : World) (hn : n < 9223372036854775808) :
    Calls Try.prog 27 #[.int .i64 n, .int .i64 k] w (Asks w (srch (fun i => decide (k ≤ (i : Int))) n 0 n []).2) := by
  have hS := search_log 44 #[.pointer (some ⟨(w.alloc (.cells #[.int .i64 k] 3)).heap.size, 0, none⟩), .pointer (some ⟨w.heap.size, 0, none⟩)] n (fun i => decide (k ≤ (i : Int))) (AskR (w.alloc (.cells #[.int .i64 k] 3)))
    ((w.alloc (.cells #[.int .i64 k] 3)).alloc (.cells #[.slice none 0 0] 27)) hn enters_asked
    (fun l w1 i hi ht hw => searchAsked1 i k w.heap.size l _ w1 (by have := srch_short _ n hn (l := l ++ [i]) ht; simp at this; omega) (cell_new _ _ _) hw) (askR_start _)
  generalize (srch (fun i => decide (k ≤ (i : Int))) n 0 n []) = r at hS ⊢
  simp only [World.size_alloc] at hS
  have HS := Lib.hid hS; clear hS
  go_enter Try.func27, Try.ntmps27
  go_wp2_with fail
  refine HS.out.mono ?_
  rintro e w' ⟨rfl, hb, v, hg, ho⟩
  simp only [World.size_alloc] at hb hg ho
  have hc := cell_of_one hg
  have hbb : Below w.heap.size w w' := ((Below.refl _ _).alloc (Nat.le_refl _) _).trans (hb.mono (by omega))
  have ho' : w'.ownsRow w.heap.size 3 1 v r.2.length (nums r.2) := ⟨ho.1, ho.2.imp id fun ⟨g, cap, cur, h1, h2, h3⟩ => ⟨g, cap, cur, h1, by omega, h3⟩⟩
  have HO := Lib.hid ho'; have HB := Lib.hid hbb
  clear hb hg ho ho' hbb
  go_wp2_with fail
  go_ret
  exact ⟨v, rfl, HO.out, HB.out⟩

/-! ### sort.Find -/
def between (low high : Int) (i : Nat) : Int := if (i : Int) < low then 1 else if (i : Int) < high then 0 else -1

set_option maxHeartbeats 1000000 in
theorem findBetween1 (i : Nat) (low high : Int) (b1 b2 : Nat) (w : World) (h1 : w.cell? ⟨b1, 0, none⟩ = some (.int .i64 low)) (h2 : w.cell? ⟨b2, 0, none⟩ = some (.int .i64 high)) :
    Calls Try.prog 45 (#[.int .i64 i] ++ #[.pointer (some ⟨b1, 0, none⟩), .pointer (some ⟨b2, 0, none⟩)]) w fun e w' => e = .returned (.int .i64 (between low high i)) ∧ w = w' := by
  by_cases c1 : (i : Int) < low
  · have HF := Lib.hid (show between low high i = 1 from if_pos c1)
    go_enter Try.func45, Try.ntmps45
    go_wp2
    go_ret
    exact ⟨by rw [HF.out]; rfl, rfl⟩
  · by_cases c2 : (i : Int) < high
    · have HF := Lib.hid (show between low high i = 0 by unfold between; rw [if_neg c1, if_pos c2])
      go_enter Try.func45, Try.ntmps45
      go_wp2
      go_ret
      exact ⟨by rw [HF.out]; rfl, rfl⟩
    · have HF := Lib.hid (show between low high i = -1 by unfold between; rw [if_neg c1, if_neg c2])
      go_enter Try.func45, Try.ntmps45
      go_wp2
      go_ret
      exact ⟨by rw [HF.out]; rfl, rfl⟩

theorem enters_between : ∀ args w, (callFunc 45 args).run Try.prog w = .ok (.enter 45 args) w := enters_of Try.func45 (by kernel_rfl) rfl

set_option maxHeartbeats 1000000 in
theorem findBetween (n : Nat) (low high : Int) (w : World) (hn : n < 9223372036854775808) :
    Calls Try.prog 28 #[.int .i64 n, .int .i64 low, .int .i64 high] w fun e w' => e = .returned (.tuple #[.int .i64 (fnd (between low high) n).1, .bool (fnd (between low high) n).2.1]) ∧ Below w.heap.size w w' := by
  have hS := find_any 45 #[.pointer (some ⟨w.heap.size, 0, none⟩), .pointer (some ⟨w.heap.size + 1, 0, none⟩)] n (between low high) (fun _ w' => w' = (w.alloc (.cells #[.int .i64 low] 3)).alloc (.cells #[.int .i64 high] 3))
    ((w.alloc (.cells #[.int .i64 low] 3)).alloc (.cells #[.int .i64 high] 3)) hn enters_between
    (fun l w1 i hi hw => by
      subst hw
      have h2 := cell_new (w.alloc (.cells #[.int .i64 low] 3)) (.int .i64 high) 3
      rw [World.size_alloc] at h2
      exact (findBetween1 i low high w.heap.size (w.heap.size + 1) _ (cell_alloc _ (cell_new _ _ _)) h2).mono fun e w' ⟨he, hw⟩ => ⟨he, hw.symm⟩) rfl
  generalize fnd (between low high) n = r at hS ⊢
  have HS := Lib.hid hS; clear hS
  go_enter Try.func28, Try.ntmps28
  go_wp2_with fail
  refine HS.out.mono ?_
  rintro e w' ⟨rfl, rfl⟩
  go_wp2_with fail
  go_ret2
  exact ⟨rfl, ((Below.refl _ _).alloc (Nat.le_refl _) _).alloc (by simp) _⟩

set_option maxHeartbeats 1000000 in
theorem specFindBetween (n low high : Int) (w : World) :
    Calls Try.prog 29 #[.int .i64 n, .int .i64 low, .int .i64 high] w fun e w' => e = .returned (.tuple #[.int .i64 (fromSpec n low), .bool (decide (fromSpec n low < n) && decide (fromSpec n low < high))]) ∧ w = w' := by
  have h1 := fun w => specSearchFrom n low w
  generalize fromSpec n low = r at h1 ⊢
  have H1 := Lib.hid h1; clear h1
  by_cases c1 : r < n
  · go_enter Try.func29, Try.ntmps29
    go_wp2_with fail
    refine (H1.out _).mono ?_
    rintro e w' ⟨rfl, rfl⟩
    go_wp2_with fail
    go_ret2
    exact ⟨by simp [c1], rfl⟩
  · have cd : decide (r < n) = false := decide_eq_false c1
    go_enter Try.func29, Try.ntmps29
    go_wp2_with fail
    refine (H1.out _).mono ?_
    rintro e w' ⟨rfl, rfl⟩
    go_wp2_with fail
    go_ret2
    exact ⟨by simp [cd], rfl⟩

theorem between_low (low high : Int) (i : Nat) : between low high i ≤ 0 ↔ low ≤ (i : Int) := by
  unfold between; split
  · omega
  · split <;> omega

theorem fnd_between (n : Nat) (low high : Int) : ((fnd (between low high) n).1 : Int) = fromSpec n low := by
  have := (srch_congr (fun i => decide (between low high i ≤ 0)) (fun i => decide (low ≤ (i : Int))) n (fun i hi => decide_eq_decide.2 (between_low low high i)) n 0 n [] (Nat.le_refl _))
  rw [← from_law, ← this]
  rfl

theorem fnd_between2 (n : Nat) (low high : Int) : (fnd (between low high) n).2.1 = (decide (fromSpec n low < (n : Int)) && decide (fromSpec n low < high)) := by
  have h1 := fnd_between n low high
  have h2 := srch_ends (fun i => decide (between low high i ≤ 0)) n n 0 n [] (by omega) (by omega) (by omega) (.inl rfl) (.inl rfl)
  have e : (fnd (between low high) n).2.1 = (decide ((fnd (between low high) n).1 < n) && (between low high (fnd (between low high) n).1 == 0)) := rfl
  have e1 : (fnd (between low high) n).1 = (srch (fun i => decide (between low high i ≤ 0)) n 0 n []).1 := rfl
  rw [← e1] at h2
  rw [e, ← h1]
  generalize (fnd (between low high) n).1 = r at h2
  obtain ⟨a, b, _⟩ := h2
  rw [Bool.eq_iff_iff]
  simp only [Bool.and_eq_true, decide_eq_true_eq, beq_iff_eq]
  constructor
  · rintro ⟨c1, c2⟩
    refine ⟨by omega, ?_⟩
    unfold between at c2
    split at c2
    · omega
    · split at c2
      · assumption
      · omega
  · rintro ⟨c1, c2⟩
    refine ⟨by omega, ?_⟩
    rcases b with b | b
    · omega
    · have := (between_low low high r).1 (by simpa using b)
      unfold between
      rw [if_neg (by omega), if_pos c2]

set_option maxHeartbeats 1000000 in
theorem fnFindBetweenw (w : World) (n : Int) (hn : I64 n) (low : Int) (hlow : I64 low) (high : Int) (hhigh : I64 high) :
    Calls Try.prog 11 #[.int .i64 n, .int .i64 low, .int .i64 high] w fun e w' => e = .returned (.bool true) ∧ Below w.heap.size w w' := by
  by_cases h0 : n < 0
  · go_enter Try.func11, Try.ntmps11
    go_wp2_with fail
    go_ret
    exact ⟨rfl, Below.refl _ _⟩
  · obtain ⟨m, rfl⟩ := Int.eq_ofNat_of_zero_le (show 0 ≤ n by omega)
    unfold I64 at hn
    have hm : m < 9223372036854775808 := by omega
    have h1 := findBetween m low high w hm
    rw [fnd_between, fnd_between2] at h1
    have h2 := fun w => specFindBetween m low high w
    generalize (decide (fromSpec m low < (m : Int)) && decide (fromSpec m low < high)) = z at h1 h2
    generalize fromSpec m low = r at h1 h2
    have heq : (r == r) = true := by simp
    have hzz : (z == z) = true := by simp
    have H1 := Lib.hid h1; have H2 := Lib.hid h2; clear h1 h2 hlow hhigh
    go_enter Try.func11, Try.ntmps11
    go_wp2_with fail
    refine H1.out.mono ?_
    rintro e w1 ⟨rfl, hb⟩
    go_wp2_with fail
    refine (H2.out _).mono ?_
    rintro e w2 ⟨rfl, rfl⟩
    go_wp2_with fail
    go_ret
    exact ⟨rfl, hb⟩

/-! ### The laws on what is asked for -/
/-- A cell of a list of the call's own. -/
theorem asks_cell {w w' : World} {base : Nat} {l : List Nat} {v : Value} (ho : w'.ownsRow base 3 1 v l.length (nums l)) {j : Nat} (hj : j < l.length) :
    ∃ g cap, v = .slice (some ⟨g, 0, none⟩) l.length cap ∧ l.length ≤ cap ∧ w'.cell? ⟨g, j, none⟩ = some (.int .i64 (l.getD j 0 : Nat)) := by
  rcases ho.2 with ⟨_, h0⟩ | ⟨g, cap, cur, rfl, hb, hg, hlc, _⟩
  · omega
  · refine ⟨g, cap, rfl, hlc, ?_⟩
    have := ho.cellAt j (by omega)
    rw [this, nums, List.getElem?_map, List.getD_eq_getElem?_getD, List.getElem?_eq_getElem hj]
    rfl

theorem asks_shape {w' : World} {base : Nat} {l : List Nat} {v : Value} (ho : w'.ownsRow base 3 1 v l.length (nums l)) : ∃ A cap, v = .slice A l.length cap := by
  rcases ho.2 with ⟨rfl, h0⟩ | ⟨g, cap, cur, rfl, _⟩
  · exact ⟨none, 0, by rw [h0]⟩
  · exact ⟨_, _, rfl⟩

theorem getD_mem {l : List Nat} {j : Nat} (hj : j < l.length) : l.getD j 0 ∈ l := by
  rw [List.getD_eq_getElem?_getD, List.getElem?_eq_getElem hj]; exact List.getElem_mem hj

/-- Behind j numbers: x tells whether the place is 0 or the one ahead of it was met, y whether it is the end or was met. -/
def HasAsked (r m : Nat) (l : List Nat) (j : Nat) (x y : Bool) : Prop := (x = true ↔ r = 0 ∨ r - 1 ∈ l.take j) ∧ (y = true ↔ r = m ∨ r ∈ l.take j)
theorem hasAsked_start (r m : Nat) (l : List Nat) : HasAsked r m l 0 ((r : Int) == 0) ((r : Int) == (m : Int)) := by
  constructor
  · rw [beq_iff_eq]; simp
  · rw [beq_iff_eq]; simp; omega
theorem mem_take_succ {l : List Nat} {j : Nat} (h : j < l.length) (a : Nat) : a ∈ l.take (j + 1) ↔ a ∈ l.take j ∨ a = l.getD j 0 := by
  rw [List.take_succ_eq_append_getElem h, List.mem_append, List.mem_singleton, List.getD_eq_getElem?_getD, List.getElem?_eq_getElem h]
  rfl
theorem hasAsked_step {r m : Nat} {l : List Nat} {j : Nat} {x y : Bool} (h : HasAsked r m l j x y) (hj : j < l.length) :
    HasAsked r m l (j + 1) (if x then true else ((l.getD j 0 : Int) == (r : Int) - 1)) (if y then true else ((l.getD j 0 : Int) == (r : Int))) := by
  obtain ⟨h1, h2⟩ := h
  constructor
  · cases x with
    | true =>
      have h1 := h1.1 rfl
      rw [mem_take_succ hj]
      simp only [if_true, true_iff]
      rcases h1 with h | h
      · exact .inl h
      · exact .inr (.inl h)
    | false =>
      have h1 : ¬ (r = 0 ∨ r - 1 ∈ l.take j) := fun h => Bool.noConfusion (h1.2 h)
      rw [mem_take_succ hj]
      simp only [Bool.false_eq_true, if_false, beq_iff_eq]
      constructor
      · intro h; exact .inr (.inr (by omega))
      · rintro (h | h | h)
        · exact absurd (.inl h) h1
        · exact absurd (.inr h) h1
        · have : r ≠ 0 := fun h => h1 (.inl h)
          omega
  · cases y with
    | true =>
      have h2 := h2.1 rfl
      rw [mem_take_succ hj]
      simp only [if_true, true_iff]
      rcases h2 with h | h
      · exact .inl h
      · exact .inr (.inl h)
    | false =>
      have h2 : ¬ (r = m ∨ r ∈ l.take j) := fun h => Bool.noConfusion (h2.2 h)
      rw [mem_take_succ hj]
      simp only [Bool.false_eq_true, if_false, beq_iff_eq]
      constructor
      · intro h; exact .inr (.inr (by omega))
      · rintro (h | h | h)
        · exact absurd (.inl h) h2
        · exact absurd (.inr h) h2
        · omega
theorem hasAsked_end {r m : Nat} {l : List Nat} {x y : Bool} (h : HasAsked r m l l.length x y) (h1 : r = m ∨ r ∈ l) (h2 : r = 0 ∨ r - 1 ∈ l) : x = true ∧ y = true := by
  unfold HasAsked at h
  rw [List.take_length] at h
  exact ⟨h.1.2 h2, h.2.2 h1⟩

set_option maxHeartbeats 1000000 in
theorem fnSearchAskedw (w : World) (n : Int) (hn : I64 n) (k : Int) (hk : I64 k) :
    Calls Try.prog 9 #[.int .i64 n, .int .i64 k] w fun e w' => e = .returned (.bool true) ∧ Below w.heap.size w w' := by
  by_cases h0 : n < 0
  · go_enter Try.func9, Try.ntmps9
    go_wp2_with fail
    go_ret
    exact ⟨rfl, Below.refl _ _⟩
  · obtain ⟨m, rfl⟩ := Int.eq_ofNat_of_zero_le (show 0 ≤ n by omega)
    unfold I64 at hn
    have hm : m < 9223372036854775808 := by omega
    have h1 := fun w => specSearchFrom m k w
    have h2 := fun w => searchAsked m k w hm
    have e1 := from_law m k
    obtain ⟨e2, _, _⟩ := srch_ends (fun i => decide (k ≤ (i : Int))) m m 0 m [] (by omega) (by omega) (by omega) (.inl rfl) (.inl rfl)
    obtain ⟨e3, _⟩ := srch_each (fun i => decide (k ≤ (i : Int))) m m 0 m [] (Nat.le_refl _) (by simp) (by simp)
    obtain ⟨e4, e5⟩ := srch_has (fun i => decide (k ≤ (i : Int))) m m 0 m [] (by omega) (by omega) (.inl rfl) (.inl rfl)
    have e6 := srch_short (fun i => decide (k ≤ (i : Int))) m hm (l := (srch (fun i => decide (k ≤ (i : Int))) m 0 m []).2) ⟨[], by simp⟩
    rw [← e1] at h1
    generalize (srch (fun i => decide (k ≤ (i : Int))) m 0 m []).2 = l at h2 e3 e4 e5 e6
    generalize (srch (fun i => decide (k ≤ (i : Int))) m 0 m []).1 = r at h1 e2 e4 e5
    clear e1
    have H1 := Lib.hid h1; have H2 := Lib.hid h2; have E := Lib.hid (And.intro e3 (And.intro e4 e5)); clear h1 h2 hk e3 e4 e5
    go_enter Try.func9, Try.ntmps9
    go_wp2_with fail
    refine (H1.out _).mono ?_
    rintro e w1 ⟨rfl, rfl⟩
    go_wp2_with fail
    refine (H2.out _).mono ?_
    rintro e w2 ⟨v, rfl, ho, hb⟩
    obtain ⟨A, cap, rfl⟩ := asks_shape ho
    have HO := Lib.hid ho; have HB := Lib.hid hb; clear ho hb
    go_wp2_with fail
    go_loop [6, 7, 24] (fun s6 s7 vi => ∃ (j : Nat) (x y : Bool), j ≤ l.length ∧ vi = .int .i64 j ∧ s6 = .bool x ∧ s7 = .bool y ∧ Hid (HasAsked r m l j x y)) (fun _ _ vi => l.length - (intOf vi).toNat)
    case atStart => exact ⟨0, _, _, Nat.zero_le _, rfl, rfl, rfl, hasAsked_start r m l⟩
    case round =>
      obtain ⟨j, x, y, hj, rfl, rfl, rfl, HI⟩ := hrel
      by_cases hlt : j < l.length
      · obtain ⟨g, cap', hA, hlc, hc⟩ := asks_cell (w := w) HO.out hlt
        simp only [Value.slice.injEq] at hA
        obtain ⟨rfl, _, rfl⟩ := hA
        have ha : l.getD j 0 < m := E.out.1 _ (getD_mem hlt)
        have HN := Lib.hid (hasAsked_step HI.out hlt)
        generalize l.getD j 0 = a at hc ha HN
        have hlt0 : decide ((a : Int) < 0) = false := decide_eq_false (by omega)
        have hge : decide ((a : Int) ≥ (m : Int)) = false := decide_eq_false (by omega)
        cases x <;> cases y
        all_goals
          go_wp2_with fail
          go_round
          case rel => exact ⟨j + 1, _, _, hlt, by go_num, rfl, rfl, HN.out⟩
          case measure => simp [intOf]; omega
      · obtain rfl : j = l.length := by omega
        obtain ⟨rfl, rfl⟩ := hasAsked_end HI.out E.out.2.1 E.out.2.2
        go_wp2_with fail
        go_ret
        exact ⟨rfl, HB.out⟩

def Halved (n b mm : Nat) : Prop := n / 2 ^ b = mm
theorem halves {n b mm : Nat} (h : n / 2 ^ b = mm) (hn : n < 9223372036854775808) (h0 : 0 < mm) : n / 2 ^ (b + 1) = mm / 2 ∧ b < 63 := by
  constructor
  · rw [Nat.pow_succ, ← Nat.div_div_eq_div_mul, h]
  · rcases Nat.lt_or_ge b 63 with hb | hb
    · exact hb
    · exfalso
      have h1 : 2 ^ 63 ≤ 2 ^ b := Nat.pow_le_pow_right (by omega) hb
      have h2 : n / 2 ^ b = 0 := Nat.div_eq_of_lt (by omega)
      omega

theorem nodup_getD {l : List Nat} (h : l.Nodup) {i j : Nat} (hi : i < j) (hj : j < l.length) : l.getD j 0 ≠ l.getD i 0 := by
  rw [List.getD_eq_getElem?_getD, List.getElem?_eq_getElem hj, List.getD_eq_getElem?_getD, List.getElem?_eq_getElem (by omega : i < l.length)]
  simp only [Option.getD_some]
  intro he
  have := (List.getElem_inj h).1 he
  omega

set_option maxHeartbeats 2000000 in
theorem fnSearchAsksFeww (w : World) (n : Int) (hn : I64 n) (k : Int) (hk : I64 k) :
    Calls Try.prog 10 #[.int .i64 n, .int .i64 k] w fun e w' => e = .returned (.bool true) ∧ Below w.heap.size w w' := by
  by_cases h0 : n < 0
  · go_enter Try.func10, Try.ntmps10
    go_wp2_with fail
    go_ret
    exact ⟨rfl, Below.refl _ _⟩
  · obtain ⟨m, rfl⟩ := Int.eq_ofNat_of_zero_le (show 0 ≤ n by omega)
    unfold I64 at hn
    have hm : m < 9223372036854775808 := by omega
    have h2 := searchAsked m k w hm
    obtain ⟨_, e3⟩ := srch_each (fun i => decide (k ≤ (i : Int))) m m 0 m [] (Nat.le_refl _) (by simp) (by simp)
    have e4 := srch_some (fun i => decide (k ≤ (i : Int))) m
    have e5 := fun b => srch_few (fun i => decide (k ≤ (i : Int))) b m 0 m []
    have e6 := srch_short (fun i => decide (k ≤ (i : Int))) m hm (l := (srch (fun i => decide (k ≤ (i : Int))) m 0 m []).2) ⟨[], by simp⟩
    generalize (srch (fun i => decide (k ≤ (i : Int))) m 0 m []).2 = l at h2 e3 e4 e5 e6
    have H2 := Lib.hid h2; have E := Lib.hid (And.intro e3 (And.intro e4 e5)); clear h2 hk e3 e4 e5
    go_enter Try.func10, Try.ntmps10
    go_wp2_with fail
    refine H2.out.mono ?_
    rintro e w2 ⟨v, rfl, ho, hb⟩
    obtain ⟨A, cap, rfl⟩ := asks_shape ho
    have HO := Lib.hid ho; have HB := Lib.hid hb; clear ho hb H2
    go_wp2_with fail
    go_loop [6, 7] (fun s6 s7 => ∃ b mm : Nat, b ≤ 63 ∧ mm ≤ m ∧ s6 = .int .i64 b ∧ s7 = .int .i64 mm ∧ Hid (Halved m b mm)) (fun _ s7 => (intOf s7).toNat)
    case atStart => exact ⟨0, m, by omega, Nat.le_refl _, rfl, rfl, show m / 2 ^ 0 = m by simp⟩
    case round =>
      obtain ⟨b, mm, hb63, hmm, rfl, rfl, HI⟩ := hrel
      by_cases hpos : 0 < mm
      · obtain ⟨q1, q2⟩ := halves HI.out hm hpos
        have HQ := Lib.hid q1; clear q1
        go_wp2_with fail
        go_round
        case rel => exact ⟨b + 1, mm / 2, by omega, by omega, by go_num, by go_num, HQ.out⟩
        case measure => simp [intOf]; omega
      · have hz : mm = 0 := by omega
        subst hz
        have hlen : l.length ≤ b := by
          have h1 := E.out.2.2 b (by
            rcases Nat.lt_or_ge m (2 ^ b) with h | h
            · omega
            · have := Nat.div_pos h (Nat.pow_pos (by omega : 0 < 2)); have h2 := HI.out; unfold Halved at h2; omega)
          simpa using h1
        have hge : decide ((l.length : Int) > (b : Int) + 1) = false := decide_eq_false (by omega)
        clear HI hpos
        have key : (¬ 0 < m ∧ decide ((m : Int) > 0) = false ∧ decide (0 < m) = false) ∨ (0 < m ∧ 0 < l.length ∧ ((l.length : Int) == 0) = false) := by
          rcases Nat.eq_zero_or_pos m with h | h
          · exact .inl ⟨by omega, decide_eq_false (by omega), decide_eq_false (by omega)⟩
          · have h3 := E.out.2.1 h
            exact .inr ⟨h, h3, by rw [beq_eq_false_iff_ne]; omega⟩
        rcases key with ⟨hd0, hd1, hd2⟩ | ⟨hd0, hd1, hd2⟩
        all_goals
          go_wp2_with fail
          go_loop [40] (fun s40 => ∃ j : Nat, j ≤ l.length ∧ s40 = .int .i64 j) (fun s40 => l.length - (intOf s40).toNat)
          case atStart => exact ⟨0, Nat.zero_le _, rfl⟩
          case round =>
            obtain ⟨j, hj, rfl⟩ := hrel
            by_cases hlt : j < l.length
            · obtain ⟨g, cap', hA, hlc, hc⟩ := asks_cell (w := w) HO.out hlt
              simp only [Value.slice.injEq] at hA
              obtain ⟨rfl, _, rfl⟩ := hA
              have HJ := Lib.hid (show ∀ i, i < j → l.getD j 0 ≠ l.getD i 0 from fun i hi => nodup_getD E.out.1 hi hlt)
              generalize l.getD j 0 = a at hc HJ
              have hjc : j ≤ cap := by omega
              go_wp2_with fail
              go_loop [49] (fun s49 => ∃ i : Nat, i ≤ j ∧ s49 = .int .i64 i) (fun s49 => j - (intOf s49).toNat)
              case atStart => exact ⟨0, Nat.zero_le _, rfl⟩
              case round =>
                obtain ⟨i, hi, rfl⟩ := hrel
                by_cases hij : i < j
                · obtain ⟨g', cap', hA, _, hc'⟩ := asks_cell (w := w) HO.out (show i < l.length by omega)
                  simp only [Value.slice.injEq, Option.some.injEq, Addr.mk.injEq, and_true] at hA
                  obtain ⟨rfl, _⟩ := hA
                  have hne := HJ.out i hij
                  have hne' : ((a : Int) == (l.getD i 0 : Int)) = false := by rw [beq_eq_false_iff_ne]; omega
                  clear hne
                  generalize l.getD i 0 = a' at hc' hne'
                  go_wp2_with fail
                  go_round
                  case rel => exact ⟨i + 1, hij, by go_num⟩
                  case measure => simp [intOf]; omega
                · go_wp2_with fail
                  go_round
                  case rel => exact ⟨j + 1, hlt, by go_num⟩
                  case measure => simp [intOf]; omega
            · go_wp2_with fail
              go_ret
              exact ⟨rfl, HB.out⟩

set_option maxHeartbeats 2000000 in
theorem findAsked1 (i : Nat) (low high : Int) (b1 b2 : Nat) (l : List Nat) (w1 W : World) (hl : l.length ≤ 1000) (hc1 : w1.cell? ⟨b1, 0, none⟩ = some (.int .i64 low)) (hc2 : w1.cell? ⟨b2, 0, none⟩ = some (.int .i64 high)) (hR : AskR w1 l W) :
    Calls Try.prog 46 (#[.int .i64 i] ++ #[.pointer (some ⟨w1.heap.size, 0, none⟩), .pointer (some ⟨b1, 0, none⟩), .pointer (some ⟨b2, 0, none⟩)]) W fun e w' => e = .returned (.int .i64 (between low high i)) ∧ AskR w1 (l ++ [i]) w' := by
  obtain ⟨i0, hi0, hz0, hz1, hz2⟩ := info_parts int_info
  obtain ⟨hb, v, hg, ho⟩ := hR
  have hlt := lt_of_block hg
  have hv := cell_of_one hg
  have hbl1 : b1 < w1.heap.size := World.block_lt_of_cell? _ _ hc1
  have hbl2 : b2 < w1.heap.size := World.block_lt_of_cell? _ _ hc2
  have HB := Lib.hid hb; have HG := Lib.hid hg; have HO := Lib.hid ho
  have HBT := Lib.hid (show between low high i = if (i : Int) < low then 1 else if (i : Int) < high then 0 else -1 from rfl)
  generalize between low high i = bt at HBT ⊢
  clear hb hg ho
  go_enter Try.func46, Try.ntmps46
  go_wp2_with (at_builtin; refine wpList_append_own _ rfl _ _ 27 rfl (w1.heap.size + 1) 3 i0 (.int .i64 0) 1 8 Try.underlying27 hi0 hz0 hz1 hz2 rfl (by decide) _ _ _ rfl (HO.out.alloc _) ⟨W.heap.size, 0, none⟩ 1 1 [.int .i64 (i : Int)] rfl rfl ?c1 ?c2 ?c3 ?c4 ?c5 ?_)
  case c1 => exact cell_one_new _ _ _
  case c2 => simp [Value.oneCell']
  case c3 => simp only [maxLen]; omega
  case c4 => omega
  case c5 => simp; omega
  intro v' W2 ho2 hg2 _
  obtain ⟨gv, cv, hv', _⟩ := ho2.form (by omega)
  rw [hv'] at ho2 ⊢
  clear hv'
  have hA := askR_step HB.out HG.out HO.out ho2 hg2
  have hne : ∀ k, v.ownBlock = some k → w1.heap.size + 1 ≤ k := fun k hk => (HO.out.lt k hk).1
  have hgg : W2.heap[w1.heap.size]? = some (.cells #[v] 27 (0, 0)) := by
    rw [hg2.block _ (by simp; omega) (fun e => by have := hne _ e.symm; omega), Below.heap_alloc _ _ _ hlt]; exact HG.out
  have c0 := cell_of_one hgg
  have c1 := free_of_one hgg
  have ck1 : (W2.setCell ⟨w1.heap.size, 0, none⟩ (.slice (some ⟨gv, 0, none⟩) (l.length + 1) cv)).cell? ⟨b1, 0, none⟩ = some (.int .i64 low) := (hA.1.cell (p := ⟨b1, 0, none⟩) hbl1).trans hc1
  have ck2 : (W2.setCell ⟨w1.heap.size, 0, none⟩ (.slice (some ⟨gv, 0, none⟩) (l.length + 1) cv)).cell? ⟨b2, 0, none⟩ = some (.int .i64 high) := (hA.1.cell (p := ⟨b2, 0, none⟩) hbl2).trans hc2
  have HA := Lib.hid hA
  clear hA hgg hg2 ho2 hne
  by_cases q1 : (i : Int) < low
  · have HQ := Lib.hid (show bt = 1 by rw [HBT.out, if_pos q1])
    go_wp2_with fail
    go_ret
    exact ⟨by rw [HQ.out]; rfl, HA.out⟩
  · by_cases q2 : (i : Int) < high
    · have HQ := Lib.hid (show bt = 0 by rw [HBT.out, if_neg q1, if_pos q2])
      go_wp2_with fail
      go_ret
      exact ⟨by rw [HQ.out]; rfl, HA.out⟩
    · have HQ := Lib.hid (show bt = -1 by rw [HBT.out, if_neg q1, if_neg q2])
      go_wp2_with fail
      go_ret
      exact ⟨by rw [HQ.out]; rfl, HA.out⟩

theorem enters_fasked : ∀ args w, (callFunc 46 args).run Try.prog w = .ok (.enter 46 args) w := enters_of Try.func46 (by kernel_rfl) rfl

theorem fnd_short (c : Nat → Int) (n : Nat) (hn : n < 9223372036854775808) {l : List Nat} (h : ∃ t, (fnd c n).2.2 = l ++ t) : l.length ≤ 64 := by
  obtain ⟨t, ht⟩ := h
  have h1 := srch_few (fun i => decide (c i ≤ 0)) 63 n 0 n [] (by omega)
  have h2 : (fnd c n).2.2.length ≤ 64 := by
    unfold fnd
    dsimp only
    split
    · simp at h1 ⊢; omega
    · simp at h1 ⊢; omega
  rw [ht] at h2
  simp at h2; omega

set_option maxHeartbeats 1000000 in
theorem findAsked (n : Nat) (low high : Int) (w : World) (hn : n < 9223372036854775808) :
    Calls Try.prog 30 #[.int .i64 n, .int .i64 low, .int .i64 high] w (Asks w (fnd (between low high) n).2.2) := by
  have hS := find_log 46 #[.pointer (some ⟨((w.alloc (.cells #[.int .i64 low] 3)).alloc (.cells #[.int .i64 high] 3)).heap.size, 0, none⟩), .pointer (some ⟨w.heap.size, 0, none⟩), .pointer (some ⟨w.heap.size + 1, 0, none⟩)] n (between low high)
    (AskR ((w.alloc (.cells #[.int .i64 low] 3)).alloc (.cells #[.int .i64 high] 3)))
    (((w.alloc (.cells #[.int .i64 low] 3)).alloc (.cells #[.int .i64 high] 3)).alloc (.cells #[.slice none 0 0] 27)) hn enters_fasked
    (fun l w1 i hi ht hw => by
      have h2 := cell_new (w.alloc (.cells #[.int .i64 low] 3)) (.int .i64 high) 3
      rw [World.size_alloc] at h2
      exact findAsked1 i low high w.heap.size (w.heap.size + 1) l _ w1 (by have := fnd_short _ n hn (l := l ++ [i]) ht; simp at this; omega) (cell_alloc _ (cell_new _ _ _)) h2 hw) (askR_start _)
  generalize (fnd (between low high) n) = r at hS ⊢
  simp only [World.size_alloc] at hS
  have HS := Lib.hid hS; clear hS
  go_enter Try.func30, Try.ntmps30
  go_wp2_with fail
  refine HS.out.mono ?_
  rintro e w' ⟨rfl, hb, v, hg, ho⟩
  simp only [World.size_alloc] at hb hg ho
  have hc := cell_of_one hg
  have hbb : Below w.heap.size w w' := (((Below.refl _ _).alloc (Nat.le_refl _) _).alloc (by simp) _).trans (hb.mono (by omega))
  have ho' : w'.ownsRow w.heap.size 3 1 v r.2.2.length (nums r.2.2) := ⟨ho.1, ho.2.imp id fun ⟨g, cap, cur, h1, h2, h3⟩ => ⟨g, cap, cur, h1, by omega, h3⟩⟩
  have HO := Lib.hid ho'; have HB := Lib.hid hbb
  clear hb hg ho ho' hbb
  go_wp2_with fail
  go_ret
  exact ⟨v, rfl, HO.out, HB.out⟩

theorem fnd_each (c : Nat → Int) (n : Nat) : ∀ a ∈ (fnd c n).2.2, a < n := by
  obtain ⟨h1, _⟩ := srch_each (fun i => decide (c i ≤ 0)) n n 0 n [] (Nat.le_refl _) (by simp) (by simp)
  unfold fnd
  dsimp only
  split
  · intro a ha
    rw [List.mem_append, List.mem_singleton] at ha
    rcases ha with ha | rfl
    · exact h1 a ha
    · assumption
  · exact h1

theorem fnd_some (c : Nat → Int) (n : Nat) (h : 0 < n) : 0 < (fnd c n).2.2.length := by
  have h1 := srch_some (fun i => decide (c i ≤ 0)) n h
  unfold fnd
  dsimp only
  split
  · simp
  · exact h1

set_option maxHeartbeats 2000000 in
theorem fnFindAskedw (w : World) (n : Int) (hn : I64 n) (low : Int) (hlow : I64 low) (high : Int) (hhigh : I64 high) :
    Calls Try.prog 12 #[.int .i64 n, .int .i64 low, .int .i64 high] w fun e w' => e = .returned (.bool true) ∧ Below w.heap.size w w' := by
  by_cases h0 : n < 0
  · go_enter Try.func12, Try.ntmps12
    go_wp2_with fail
    go_ret
    exact ⟨rfl, Below.refl _ _⟩
  · obtain ⟨m, rfl⟩ := Int.eq_ofNat_of_zero_le (show 0 ≤ n by omega)
    unfold I64 at hn
    have hm : m < 9223372036854775808 := by omega
    have h2 := findAsked m low high w hm
    have e3 := fnd_each (between low high) m
    have e4 := fnd_some (between low high) m
    have e6 := fnd_short (between low high) m hm (l := (fnd (between low high) m).2.2) ⟨[], by simp⟩
    generalize (fnd (between low high) m).2.2 = l at h2 e3 e4 e6
    have H2 := Lib.hid h2; have E := Lib.hid (And.intro e3 e4); clear h2 hlow hhigh e3 e4
    go_enter Try.func12, Try.ntmps12
    go_wp2_with fail
    refine H2.out.mono ?_
    rintro e w2 ⟨v, rfl, ho, hb⟩
    obtain ⟨A, cap, rfl⟩ := asks_shape ho
    have HO := Lib.hid ho; have HB := Lib.hid hb; clear ho hb H2
    go_wp2_with fail
    go_loop [18] (fun vi => ∃ j : Nat, j ≤ l.length ∧ vi = .int .i64 j) (fun vi => l.length - (intOf vi).toNat)
    case atStart => exact ⟨0, Nat.zero_le _, rfl⟩
    case round =>
      obtain ⟨j, hj, rfl⟩ := hrel
      by_cases hlt : j < l.length
      · obtain ⟨g, cap', hA, hlc, hc⟩ := asks_cell (w := w) HO.out hlt
        simp only [Value.slice.injEq] at hA
        obtain ⟨rfl, _, rfl⟩ := hA
        have ha : l.getD j 0 < m := E.out.1 _ (getD_mem hlt)
        generalize l.getD j 0 = a at hc ha
        have hlt0 : decide ((a : Int) < 0) = false := decide_eq_false (by omega)
        have hge : decide ((a : Int) ≥ (m : Int)) = false := decide_eq_false (by omega)
        go_wp2_with fail
        go_round
        case rel => exact ⟨j + 1, hlt, by go_num⟩
        case measure => simp [intOf]; omega
      · rcases Nat.eq_zero_or_pos m with hm0 | hm0
        · subst hm0
          go_wp2_with fail
          go_ret
          exact ⟨rfl, HB.out⟩
        · have hlp := E.out.2 hm0
          have hne : ((m : Int) == 0) = false := by rw [beq_eq_false_iff_ne]; omega
          go_wp2_with fail
          go_ret
          exact ⟨rfl, HB.out⟩
end Go.Proofs.Ytkadfmndnnpglaa
