/-
  slices.SortFunc over the library's contracts: impl.SortByOrder by a strict weak order of the numbers, impl.SortItems, impl.SortWhole.
-/
import Derived.Test.YtjammaglboehcaaShelfF
import Derived.Test.YtjammaglboehcaaOrdG
import Derived.Test.YtjammaglboehcaaPlS
import Derived.Test.YtjammaglboehcaaPqL2
import Derived.Test.YtjammaglboehcaaZL
namespace Go.Proofs.Ytjammaglboehcaa
open Go.RowKit Go.Proofs
set_option linter.unusedVariables false

theorem perm_cnt {d : Array Nat} {n : Nat} (h : Sort.PermIn 0 n (idA n) d) : PermA n d ∧ Count n (atA d) := by
  have hs : (idA n).size = n := (permA_id n).1
  have hd : d.size = n := by rw [h.1, hs]
  have hp : (listOf (atA d) n).Perm (listOf (atA (idA n)) n) := by
    have h1 := h.2.2
    rw [Sort.extract_toList d 0 n (by omega), Sort.extract_toList (idA n) 0 n (by omega), Nat.sub_zero] at h1
    unfold listOf
    rw [List.range_eq_range']
    exact h1
  have hc : Count n (atA d) := fun q => by
    rw [cnt_list q (atA d) n, hp.countP_eq, ← cnt_list q (atA (idA n)) n]
    exact cnt_congr fun k hk => by rw [idA_at hk]
  have hin : ∀ k, k < n → atA d k < n := fun k hk => by
    have hm : atA d k ∈ listOf (atA d) n := List.mem_map.2 ⟨k, List.mem_range.2 hk, rfl⟩
    obtain ⟨j, hj, e⟩ := List.mem_map.1 (hp.mem_iff.1 hm)
    rw [← e, idA_at (List.mem_range.1 hj)]
    exact List.mem_range.1 hj
  refine ⟨⟨hd, hin, fun i j hi hj e => ?_⟩, hc⟩
  -- two places with one element: the count of it would be two
  have h1 := hc (fun k => decide (k = atA d i))
  rw [cnt_one (hin i hi)] at h1
  by_cases hij : i = j
  · exact hij
  · exfalso
    have h2 := cnt_set (fun k => decide (atA d k = atA d i)) i false n hi
    have h3 : 0 < cnt (fun k => if k = i then false else decide (atA d k = atA d i)) n := by
      have h4 := cnt_set (fun k => if k = i then false else decide (atA d k = atA d i)) j false n hj
      rw [if_neg (Ne.symm hij), ← e, decide_eq_true rfl, if_pos rfl] at h4
      have h5 : (if false = true then 1 else 0) = 0 := rfl
      omega
    rw [decide_eq_true rfl, if_pos rfl] at h2
    have h5 : (if false = true then 1 else 0) = 0 := rfl
    omega

theorem signI_neg0 (r : Int → Int → Bool) (a b : Int) : decide (signI r a b < 0) = r a b := by
  unfold signI
  cases r a b
  · cases r b a <;> simp
  · simp

/-- A strict weak order of a list's numbers by places, the last place for all behind it. -/
def clampT (r : Int → Int → Bool) (f : Nat → Int) (n i j : Nat) : Bool := r (f (min i (n - 1))) (f (min j (n - 1)))
theorem clampT_swo {r : Int → Int → Bool} {f : Nat → Int} {n : Nat} (h0 : 0 < n) (h : WeakP r f n) : Swo (clampT r f n) := by
  have hl : ∀ i, min i (n - 1) < n := fun i => by omega
  unfold clampT
  refine ⟨fun i => (h _ (hl i)).1, fun i j k h1 h2 => w3_trans (((h _ (hl i)).2 _ (hl j)).2 _ (hl k)) h1 h2, fun i j k h1 h2 => ?_⟩
  have hi := hl i; have hj := hl j; have hk := hl k
  generalize min i (n - 1) = i at *
  generalize min j (n - 1) = j at *
  generalize min k (n - 1) = k at *
  cases hc : r (f k) (f i)
  · rfl
  · exfalso
    cases hab : r (f i) (f j)
    · cases hbc : r (f j) (f k)
      · have := (w3_inc (((h i hi).2 j hj).2 k hk) hab h1 hbc h2).2
        rw [hc] at this; cases this
      · have := w3_trans (((h j hj).2 k hk).2 i hi) hbc hc
        rw [h1] at this; cases this
    · have := w3_trans (((h k hk).2 i hi).2 j hj) hc hab
      rw [h2] at this; cases this

/-- A list of the call's own: the numbers of f in an order in which none comes before one ahead of it. -/
def OutS (r : Int → Int → Bool) (w : World) (n : Nat) (f : Nat → Int) (e : Ending) (w' : World) : Prop :=
  ∃ p, PermN n p ∧ Count n p ∧ (∀ i j, i < j → j < n → r (f (p j)) (f (p i)) = false) ∧ OutP w n f p e w'

set_option maxHeartbeats 2000000 in
theorem implSortByOrder (sz : Int) (A : Option Addr) (m c B : Nat) (gb : Nat → Bool) (A' : Option Addr) (n c' B' : Nat) (f : Nat → Int) (w : World) (hsz : I64 sz) (hm : m ≤ 140737488351232) (hB : B ≤ w.heap.size) (hrd : Rd w B Value.bool A m gb)
    (hf64 : ∀ i, I64 (f i)) (hn : n * 8 ≤ 140737488351232) (hB' : B' ≤ w.heap.size) (hrd' : Rd w B' (Value.int .i64) A' n f) (hW : WeakP (relB sz m gb) f n) :
    Calls Try.prog 22 #[.slice A' n c', .agg #[.int .i64 sz, .slice A m c]] w (OutS (relB sz m gb) w n f) := by
  have HNu := Lib.hid (numbers A' n c' B' f (w.alloc (.cells #[.int .i64 sz, .slice A m c] 33)) hn (hrd'.alloc hB' _))
  have H0 := Lib.hid (BoxInv.first w sz A m c 33)
  have hs0 : (idA n).size = n := (permA_id n).1
  have HSt := Lib.hid (fun (w1 : World) (g cap : Nat) (G : Nat → Value) (hi : BoxInv w sz A m c w1) (hg : w.heap.size < g) (hr : w1.rowIs g 3 (cap * 1) G) (hnc : n ≤ cap) (hG : ∀ k, k < n → G k = .int .i64 (f k)) (h0 : 0 < n) => by
    have hcon := Any.slices_SortFunc Try.sortN (fun k : Nat => .int .i64 (f (min k (n - 1)))) (fun _ => rfl) (fun i j => signI (relB sz m gb) (f (min i (n - 1))) (f (min j (n - 1))))
      (by
        have e : ltOf (fun i j => signI (relB sz m gb) (f (min i (n - 1))) (f (min j (n - 1)))) = clampT (relB sz m gb) f n := by funext i j; unfold ltOf clampT; rw [signI_neg0]
        rw [e]; exact swo_SWO (clampT_swo h0 hW))
      48 #[.pointer (some ⟨w.heap.size, 0, none⟩)] g 0 cap (idA n) w1 (enters_of Try.func48 (by kernel_rfl) rfl)
      (fun q os dk hs x y => by
        have hb := below_put (fun k : Nat => .int .i64 (f (min k (n - 1)))) w1 g dk q os hr.lt
        have hbw : Below w.heap.size w (Sort.grow (Sort.putRow (fun k : Nat => .int .i64 (f (min k (n - 1)))) (Sort.ahead w1 q) g 0 dk) os) := hi.bel.trans (hb.mono (Nat.le_of_lt hg))
        exact (byOrderG sz (f (min x (n - 1))) (f (min y (n - 1))) A m c B w.heap.size gb _ hsz (hf64 _) (hf64 _) hm (Nat.le_trans hB hbw.size) (hrd.keep hbw hB)
          ⟨(hb.cell (p := ⟨w.heap.size, 0, none⟩) hg).trans hi.c0, (hb.cell (p := ⟨w.heap.size, 1, none⟩) hg).trans hi.c1⟩).mono fun e w' h => ⟨h.1, h.2⟩)
      (fun j hj => by
        have hj' : j < n := by rw [hs0] at hj; exact hj
        refine ⟨?_, by rw [Nat.zero_add]; exact hr.frozen j⟩
        rw [Nat.zero_add, hr.cell (by omega), hG j hj', show (idA n)[j]! = j from idA_at hj']
        dsimp only
        rw [Nat.min_eq_left (by omega)])
      hr.lt (by rw [hs0]; omega)
    rw [hs0] at hcon
    exact hcon)
  have HSn := Lib.hid (fun (w1 : World) (p : Option Addr) (cap : Nat) (fv : Value) => AnyF.slices_SortFunc_none Try.sortN0 p cap fv w1)
  have HWk := Lib.hid hW
  clear hrd hrd' hB hB' hf64 hsz hW hs0
  go_enter Try.func22, Try.ntmps22
  go_wp2_with fail
  refine HNu.out.mono ?_
  rintro e w1 ⟨v1, rfl, ⟨G, hG, hF⟩, hb1⟩
  have H1 := Lib.hid (H0.out.step hb1)
  have hbs : w.heap.size < (w.alloc (.cells #[.int .i64 sz, .slice A m c] 33)).heap.size := by simp
  rcases hG with ⟨rfl, h0⟩ | ⟨g, cap, rfl, hg, hnc, hr⟩
  · have H0n := Lib.hid h0
    clear h0 hF hb1 HSt HNu hbs
    go_wp2_with fail
    refine (HSn.out w1 none 0 _).mono ?_
    rintro e w2 ⟨rfl, rfl⟩
    go_wp2_with fail
    go_ret
    exact ⟨fun k => k, permN_id n, count_id n, fun i j _ hj => absurd hj (by rw [H0n.out]; omega), _, rfl, ⟨fun _ => .bool false, .inl ⟨rfl, H0n.out⟩, fun k hk => absurd hk (by rw [H0n.out]; omega)⟩, H1.out.bel⟩
  · by_cases h0 : 0 < n
    · have HC := Lib.hid (HSt.out w1 g cap G H1.out (Nat.lt_of_lt_of_le hbs hg) hr hnc (fun k hk => hF k (by omega)) h0)
      have HGg := Lib.hid (And.intro (Nat.le_of_lt (Nat.lt_of_lt_of_le hbs hg)) (And.intro hnc hr))
      clear hF hb1 HSn HSt HNu hbs hg hnc hr
      go_wp2_with fail
      refine HC.out.mono ?_
      rintro e w2 ⟨rfl, d', q, os, hp, hs, hw2⟩
      have HW2 := Lib.hid hw2; have HP := Lib.hid (And.intro (perm_cnt hp) hs); clear hw2 hp hs
      go_wp2_with fail
      go_ret
      have hpa := HP.out.1.1
      refine ⟨atA d', hpa.2, HP.out.1.2, fun i j hij hj => ?_, _, rfl, ⟨_, .inr ⟨g, cap, rfl, HGg.out.1, HGg.out.2.1, by rw [HW2.out]; exact rowIs_put (fun k : Nat => Value.int .i64 (f (min k (n - 1)))) HGg.out.2.2 d' q os⟩, fun k hk => ?_⟩, H1.out.bel.trans (by rw [HW2.out]; exact (below_put (fun k : Nat => Value.int .i64 (f (min k (n - 1)))) w1 g d' q os HGg.out.2.2.lt).mono HGg.out.1)⟩
      · have h1 := HP.out.2 i j (Nat.zero_le _) hij hj
        unfold ltOf at h1
        rw [signI_neg0] at h1
        have e1 : min d'[j]! (n - 1) = atA d' j := by have := hpa.2.1 j hj; unfold atA at *; omega
        have e2 : min d'[i]! (n - 1) = atA d' i := by have := hpa.2.1 i (by omega); unfold atA at *; omega
        rw [e1, e2] at h1
        exact h1
      · rw [if_pos (by rw [hpa.1]; exact hk)]
        have e1 : min d'[k]! (n - 1) = atA d' k := by have := hpa.2.1 k hk; unfold atA at *; omega
        rw [e1]
    · obtain rfl : n = 0 := by omega
      have HC := Lib.hid (fun fv => HSn.out w1 (some ⟨g, 0, none⟩) cap fv)
      have HGg := Lib.hid (And.intro (Nat.le_of_lt (Nat.lt_of_lt_of_le hbs hg)) (And.intro hnc hr))
      clear hF hb1 HSn HSt HNu hbs hg hnc hr
      go_wp2_with fail
      refine (HC.out _).mono ?_
      rintro e w2 ⟨rfl, rfl⟩
      go_wp2_with fail
      go_ret
      exact ⟨fun k => k, permN_id 0, count_id 0, fun i j _ hj => absurd hj (by omega), _, rfl, ⟨G, .inr ⟨g, cap, rfl, HGg.out.1, HGg.out.2.1, HGg.out.2.2⟩, fun k hk => absurd hk (by omega)⟩, H1.out.bel⟩

/-- An item's two cells. -/
def encT (x : Int × Int) : List Value := [.int .i64 x.1, .int .i64 x.2]
theorem flat_item (d : Array (Int × Int)) {t : Nat} (h : t < d.size * 2) : (Sort.flatK encT 2 d)[t]! = cellI (fun i => d[i]!) t := by
  rw [Sort.get_flatK _ _ _ t h]
  unfold cellI encT
  by_cases c : t % 2 = 0
  · rw [if_pos c, c]; rfl
  · rw [if_neg c, show t % 2 = 1 by omega]; rfl
def arrI (f : Nat → Int × Int) (n : Nat) : Array (Int × Int) := (listOf f n).toArray
theorem arrI_size (f : Nat → Int × Int) (n : Nat) : (arrI f n).size = n := by unfold arrI; rw [List.size_toArray, listOf_len]
theorem arrI_at (f : Nat → Int × Int) {n k : Nat} (h : k < n) : (arrI f n)[k]! = f k := by
  have h1 := listOf_get (f := f) h
  unfold arrI
  rw [getElem!_pos _ k (by rw [List.size_toArray, listOf_len]; exact h), List.getElem_toArray]
  rw [List.getElem?_eq_getElem (by rw [listOf_len]; exact h)] at h1
  exact Option.some.inj h1
theorem permI_cnt {f : Nat → Int × Int} {d : Array (Int × Int)} {n : Nat} (h : Sort.PermIn 0 n (arrI f n) d) (q : Int × Int → Bool) : d.size = n ∧ cnt (fun k => q d[k]!) n = cnt (fun k => q (f k)) n := by
  have hs := arrI_size f n
  have hd : d.size = n := by rw [h.1, hs]
  have hp : (listOf (fun k => d[k]!) n).Perm (listOf (fun k => (arrI f n)[k]!) n) := by
    have h1 := h.2.2
    rw [Sort.extract_toList d 0 n (by omega), Sort.extract_toList (arrI f n) 0 n (by omega), Nat.sub_zero] at h1
    unfold listOf
    rw [List.range_eq_range']
    exact h1
  refine ⟨hd, ?_⟩
  rw [cnt_list q (fun k => d[k]!) n, hp.countP_eq, ← cnt_list q (fun k => (arrI f n)[k]!) n]
  exact cnt_congr fun k hk => by rw [arrI_at f hk]

/-- A list of items of the call's own: those of f, in order by lt. -/
def OutT (lt : Int × Int → Int × Int → Bool) (w : World) (n : Nat) (f : Nat → Int × Int) (e : Ending) (w' : World) : Prop :=
  ∃ A c g, e = .returned (.slice A n c) ∧ RdI w' w'.heap.size A n g ∧ Below w.heap.size w w' ∧ (∀ q : Int × Int → Bool, cnt (fun k => q (g k)) n = cnt (fun k => q (f k)) n) ∧ ∀ i j, i < j → j < n → lt (g j) (g i) = false

theorem swo_key : Sort.SWO (ltOf fun x y : Int × Int => cmpI x.1 y.1) := by
  have e : ∀ x y : Int × Int, ltOf (fun x y : Int × Int => cmpI x.1 y.1) x y = decide (x.1 < y.1) := fun x y => cmpI_neg _ _
  exact ⟨fun x => by rw [e]; simp, fun x y z h1 h2 => by rw [e] at *; simp at *; omega, fun x y z h1 h2 => by rw [e] at *; simp at *; omega⟩
set_option maxHeartbeats 1000000 in
theorem byKeyG (x y : Int × Int) (w : World) : Calls Try.prog 36 #[.agg #[.int .i64 x.1, .int .i64 x.2], .agg #[.int .i64 y.1, .int .i64 y.2]] w fun e w' => e = .returned (.int .i64 (cmpI x.1 y.1)) ∧ Gr w w' := by
  have HC := Lib.hid (fun w' => compare x.1 y.1 w')
  have HB := Lib.hid (fun o o' => (gr_alloc w o).trans (gr_alloc (w.alloc o) o'))
  generalize cmpI x.1 y.1 = r at *
  go_enter Try.func36, Try.ntmps36
  go_wp2_with fail
  refine (HC.out _).mono ?_
  rintro e w1 ⟨rfl, rfl⟩
  go_wp2_with fail
  go_ret
  exact ⟨rfl, HB.out _ _⟩
theorem swo_whole : Sort.SWO (ltOf cmpW) := by
  have e : ∀ x y : Int × Int, ltOf cmpW x y = lexB x y := fun x y => cmpW_neg x y
  exact ⟨fun x => by rw [e]; exact lexG_swo.irrefl x, fun x y z h1 h2 => by rw [e] at *; exact lexG_swo.trans _ _ _ h1 h2, fun x y z h1 h2 => by rw [e] at *; exact lexG_swo.pass _ _ _ h2 h1⟩
set_option maxHeartbeats 1000000 in
theorem byWholeG (x y : Int × Int) (w : World) : Calls Try.prog 42 #[.agg #[.int .i64 x.1, .int .i64 x.2], .agg #[.int .i64 y.1, .int .i64 y.2]] w fun e w' => e = .returned (.int .i64 (cmpW x y)) ∧ Gr w w' := by
  have HC := Lib.hid (fun w' => compare x.1 y.1 w')
  have HD := Lib.hid (fun w' => compare x.2 y.2 w')
  have HB := Lib.hid (fun o o' => (gr_alloc w o).trans (gr_alloc (w.alloc o) o'))
  have HE := Lib.hid (show cmpW x y = if cmpI x.1 y.1 = 0 then cmpI x.2 y.2 else cmpI x.1 y.1 from rfl)
  generalize cmpW x y = z at *
  generalize cmpI x.1 y.1 = r at *
  generalize cmpI x.2 y.2 = r2 at *
  by_cases hr : r = 0
  · subst hr
    have HE2 : Hid (z = r2) := Lib.hid (by rw [HE.out, if_pos rfl])
    clear HE
    go_enter Try.func42, Try.ntmps42
    go_wp2_with fail
    refine (HC.out _).mono ?_
    rintro e w1 ⟨rfl, rfl⟩
    go_wp2_with fail
    refine (HD.out _).mono ?_
    rintro e w1 ⟨rfl, rfl⟩
    go_wp2_with fail
    go_ret
    exact ⟨by rw [HE2.out]; rfl, HB.out _ _⟩
  · have HE2 : Hid (z = r) := Lib.hid (by rw [HE.out, if_neg hr])
    have hrz : (r != 0) = true := by simpa using hr
    clear HE
    go_enter Try.func42, Try.ntmps42
    go_wp2_with fail
    refine (HC.out _).mono ?_
    rintro e w1 ⟨rfl, rfl⟩
    go_wp2_with fail
    go_ret
    exact ⟨by rw [HE2.out]; rfl, HB.out _ _⟩

set_option maxHeartbeats 2000000 in
theorem implSortItems (A : Option Addr) (n c B : Nat) (f : Nat → Int × Int) (w : World) (hn : n * 16 ≤ 140737488351232) (hrd : RdI w B A n f) :
    Calls Try.prog 11 #[.slice A n c] w (OutT (fun x y => decide (x.1 < y.1)) w n f) := by
  have HNu := Lib.hid (items A n c B f w hn hrd)
  have hs0 := arrI_size f n
  have HSt := Lib.hid (fun (w1 : World) (g cap : Nat) (G : Nat → Value) (hr : w1.rowIs g 47 (cap * 2) G) (hnc : n ≤ cap) (hG : ∀ k, k < n * 2 → G k = cellI f k) => by
    have hcon := AnyQ.slices_SortFunc Try.sortT 2 Try.isAgg47 Try.sizeOf47 encT (fun _ => rfl) (fun x v hv => by simp [encT] at hv; rcases hv with rfl | rfl <;> rfl) (fun x y : Int × Int => cmpI x.1 y.1) swo_key 36 #[] g 0 cap (arrI f n) w1 (enters_of Try.func36 (by kernel_rfl) rfl)
      (fun q os dk hs x y => (byKeyG x y _).mono fun e w' h => ⟨h.1, h.2⟩)
      (fun j hj => by
        have hj' : j < n * 2 := by rw [Sort.size_flatK, hs0] at hj; exact hj
        refine ⟨?_, by rw [Nat.zero_add]; exact hr.frozen j⟩
        rw [Nat.zero_add, hr.cell (by omega), hG j hj', flat_item _ (by rw [hs0]; exact hj')]
        unfold cellI; dsimp only [id]; rw [arrI_at f (by omega)])
      hr.lt (by rw [hs0]; omega)
    rw [hs0] at hcon
    exact hcon)
  have HSn := Lib.hid (fun (w1 : World) (p : Option Addr) (cap : Nat) (fv : Value) => AnyF.slices_SortFunc_none Try.sortT p cap fv w1)
  clear hrd hs0
  go_enter Try.func11, Try.ntmps11
  go_wp2_with fail
  refine HNu.out.mono ?_
  rintro e w1 ⟨v1, rfl, ⟨G, hG, hF⟩, hb1⟩
  have H1 := Lib.hid hb1
  rcases hG with ⟨rfl, h0⟩ | ⟨g, cap, rfl, hg, hnc, hr⟩
  · have H0n := Lib.hid h0
    clear h0 hF hb1 HSt HNu
    go_wp2_with fail
    refine (HSn.out w1 none 0 _).mono ?_
    rintro e w2 ⟨rfl, rfl⟩
    go_wp2_with fail
    go_ret
    obtain rfl := H0n.out
    exact ⟨none, 0, f, rfl, RdI.none, H1.out, fun q => rfl, fun i j _ hj => absurd hj (by omega)⟩
  · have HC := Lib.hid (HSt.out w1 g cap G hr hnc hF)
    have HGg := Lib.hid (And.intro hg (And.intro hnc hr))
    clear hF hb1 HSn HSt HNu hg hnc hr
    go_wp2_with fail
    refine HC.out.mono ?_
    rintro e w2 ⟨rfl, d', q, os, hp, hs, hw2⟩
    have HW2 := Lib.hid hw2; have HP := Lib.hid (And.intro (fun q => permI_cnt hp q) hs); clear hw2 hp hs
    go_wp2_with fail
    go_ret
    have hd : d'.size = n := (HP.out.1 (fun _ => true)).1
    have hrow := rowIs_put id HGg.out.2.2 (Sort.flatK encT 2 d') q os
    have hb2 := below_put id w1 g (Sort.flatK encT 2 d') q os HGg.out.2.2.lt
    refine ⟨_, cap, fun k => d'[k]!, rfl, ?_, H1.out.trans (by rw [HW2.out]; exact hb2.mono HGg.out.1), fun q => (HP.out.1 q).2, fun i j hij hj => ?_⟩
    · rw [HW2.out]
      have hnc := HGg.out.2.1
      exact rdI_of_row hrow (by omega) (fun i hi => ⟨by rw [if_pos (by rw [Sort.size_flatK, hd]; omega)]; exact (flat_item d' (by rw [hd]; omega)).trans (cellI_even _ _), by rw [if_pos (by rw [Sort.size_flatK, hd]; omega)]; exact (flat_item d' (by rw [hd]; omega)).trans (cellI_odd _ _)⟩)
    · have h1 := HP.out.2 i j (Nat.zero_le _) hij hj
      exact (cmpI_neg _ _).symm.trans h1

set_option maxHeartbeats 2000000 in
theorem implSortWhole (A : Option Addr) (n c B : Nat) (f : Nat → Int × Int) (w : World) (hn : n * 16 ≤ 140737488351232) (hrd : RdI w B A n f) :
    Calls Try.prog 17 #[.slice A n c] w (OutT (lexB) w n f) := by
  have HNu := Lib.hid (items A n c B f w hn hrd)
  have hs0 := arrI_size f n
  have HSt := Lib.hid (fun (w1 : World) (g cap : Nat) (G : Nat → Value) (hr : w1.rowIs g 47 (cap * 2) G) (hnc : n ≤ cap) (hG : ∀ k, k < n * 2 → G k = cellI f k) => by
    have hcon := AnyQ.slices_SortFunc Try.sortT 2 Try.isAgg47 Try.sizeOf47 encT (fun _ => rfl) (fun x v hv => by simp [encT] at hv; rcases hv with rfl | rfl <;> rfl) (cmpW) swo_whole 42 #[] g 0 cap (arrI f n) w1 (enters_of Try.func42 (by kernel_rfl) rfl)
      (fun q os dk hs x y => (byWholeG x y _).mono fun e w' h => ⟨h.1, h.2⟩)
      (fun j hj => by
        have hj' : j < n * 2 := by rw [Sort.size_flatK, hs0] at hj; exact hj
        refine ⟨?_, by rw [Nat.zero_add]; exact hr.frozen j⟩
        rw [Nat.zero_add, hr.cell (by omega), hG j hj', flat_item _ (by rw [hs0]; exact hj')]
        unfold cellI; dsimp only [id]; rw [arrI_at f (by omega)])
      hr.lt (by rw [hs0]; omega)
    rw [hs0] at hcon
    exact hcon)
  have HSn := Lib.hid (fun (w1 : World) (p : Option Addr) (cap : Nat) (fv : Value) => AnyF.slices_SortFunc_none Try.sortT p cap fv w1)
  clear hrd hs0
  go_enter Try.func17, Try.ntmps17
  go_wp2_with fail
  refine HNu.out.mono ?_
  rintro e w1 ⟨v1, rfl, ⟨G, hG, hF⟩, hb1⟩
  have H1 := Lib.hid hb1
  rcases hG with ⟨rfl, h0⟩ | ⟨g, cap, rfl, hg, hnc, hr⟩
  · have H0n := Lib.hid h0
    clear h0 hF hb1 HSt HNu
    go_wp2_with fail
    refine (HSn.out w1 none 0 _).mono ?_
    rintro e w2 ⟨rfl, rfl⟩
    go_wp2_with fail
    go_ret
    obtain rfl := H0n.out
    exact ⟨none, 0, f, rfl, RdI.none, H1.out, fun q => rfl, fun i j _ hj => absurd hj (by omega)⟩
  · have HC := Lib.hid (HSt.out w1 g cap G hr hnc hF)
    have HGg := Lib.hid (And.intro hg (And.intro hnc hr))
    clear hF hb1 HSn HSt HNu hg hnc hr
    go_wp2_with fail
    refine HC.out.mono ?_
    rintro e w2 ⟨rfl, d', q, os, hp, hs, hw2⟩
    have HW2 := Lib.hid hw2; have HP := Lib.hid (And.intro (fun q => permI_cnt hp q) hs); clear hw2 hp hs
    go_wp2_with fail
    go_ret
    have hd : d'.size = n := (HP.out.1 (fun _ => true)).1
    have hrow := rowIs_put id HGg.out.2.2 (Sort.flatK encT 2 d') q os
    have hb2 := below_put id w1 g (Sort.flatK encT 2 d') q os HGg.out.2.2.lt
    refine ⟨_, cap, fun k => d'[k]!, rfl, ?_, H1.out.trans (by rw [HW2.out]; exact hb2.mono HGg.out.1), fun q => (HP.out.1 q).2, fun i j hij hj => ?_⟩
    · rw [HW2.out]
      have hnc := HGg.out.2.1
      exact rdI_of_row hrow (by omega) (fun i hi => ⟨by rw [if_pos (by rw [Sort.size_flatK, hd]; omega)]; exact (flat_item d' (by rw [hd]; omega)).trans (cellI_even _ _), by rw [if_pos (by rw [Sort.size_flatK, hd]; omega)]; exact (flat_item d' (by rw [hd]; omega)).trans (cellI_odd _ _)⟩)
    · have h1 := HP.out.2 i j (Nat.zero_le _) hij hj
      exact (cmpW_neg _ _).symm.trans h1

end Go.Proofs.Ytjammaglboehcaa
