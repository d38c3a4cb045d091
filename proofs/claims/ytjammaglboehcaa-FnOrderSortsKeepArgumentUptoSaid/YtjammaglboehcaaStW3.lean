/-
  What the log of a sort holds, and how a row of calls is read. No program of Go is named here but the type of a call.
-/
import Derived.Test.YtjammaglboehcaaStW
namespace Go.Proofs.Ytjammaglboehcaa
open Go.RowKit Go.Proofs
set_option linter.unusedVariables false

/-- The k-th call of a log. -/
def lgAt (l : Log) (k : Nat) : Nat × Nat × Nat := l[k]?.getD (0, 0, 0)

/-- The slice at address A, of n calls, holds f 0, f 1, .. and lies below block B. -/
def RdC (w : World) (B : Nat) (A : Option Addr) (n : Nat) (f : Nat → Nat × Nat × Nat) : Prop :=
  0 < n → ∃ b off, A = some ⟨b, off, none⟩ ∧ b < B ∧ ∀ i, i < n → w.cell? ⟨b, off + i * 3, none⟩ = some (.int .i64 ((f i).1 : Int)) ∧ w.cell? ⟨b, off + i * 3 + 1, none⟩ = some (.int .i64 ((f i).2.1 : Int)) ∧ w.cell? ⟨b, off + i * 3 + 2, none⟩ = some (.int .i64 ((f i).2.2 : Int))

section
variable {w w' : World} {B B' n : Nat} {A : Option Addr} {f : Nat → Nat × Nat × Nat}
theorem RdC.keep (h : RdC w B A n f) (hb : Below B' w w') (hB : B ≤ B') : RdC w' B A n f := fun hn => by
  obtain ⟨b, off, hA, hlt, hc⟩ := h hn
  have hl := Nat.lt_of_lt_of_le hlt hB
  exact ⟨b, off, hA, hlt, fun i hi => ⟨(hb.cell (p := ⟨b, off + i * 3, none⟩) hl).trans (hc i hi).1, (hb.cell (p := ⟨b, off + i * 3 + 1, none⟩) hl).trans (hc i hi).2.1, (hb.cell (p := ⟨b, off + i * 3 + 2, none⟩) hl).trans (hc i hi).2.2⟩⟩
theorem RdC.at (h : RdC w B A n f) {i : Nat} (hi : i < n) : ∃ b off, A = some ⟨b, off, none⟩ ∧ b < B ∧ w.cell? ⟨b, off + i * 3, none⟩ = some (.int .i64 ((f i).1 : Int)) ∧ w.cell? ⟨b, off + i * 3 + 1, none⟩ = some (.int .i64 ((f i).2.1 : Int)) ∧ w.cell? ⟨b, off + i * 3 + 2, none⟩ = some (.int .i64 ((f i).2.2 : Int)) := by
  obtain ⟨b, off, hA, hlt, hc⟩ := h (Nat.lt_of_le_of_lt (Nat.zero_le i) hi)
  exact ⟨b, off, hA, hlt, hc i hi⟩
end

theorem callsL_get : ∀ (l : Log) (k : Nat), k < l.length → (callsL l)[k * 3]? = some (.int .i64 ((lgAt l k).1 : Int)) ∧ (callsL l)[k * 3 + 1]? = some (.int .i64 ((lgAt l k).2.1 : Int)) ∧ (callsL l)[k * 3 + 2]? = some (.int .i64 ((lgAt l k).2.2 : Int))
  | [], k, h => absurd h (Nat.not_lt_zero _)
  | c :: l, 0, h => ⟨rfl, rfl, rfl⟩
  | c :: l, k + 1, h => by
    have ih := callsL_get l k (by simpa using h)
    have e : callsL (c :: l) = .int .i64 (c.1 : Int) :: .int .i64 (c.2.1 : Int) :: .int .i64 (c.2.2 : Int) :: callsL l := rfl
    have e2 : lgAt (c :: l) (k + 1) = lgAt l k := rfl
    rw [e, e2, show (k + 1) * 3 = k * 3 + 1 + 1 + 1 by omega]
    exact ih

theorem rdC_of_own {w : World} {B : Nat} {v : Value} {l : Log} (h : w.ownsRow B 163 3 v l.length (callsL l)) : ∃ A c, v = .slice A l.length c ∧ RdC w w.heap.size A l.length (lgAt l) := by
  obtain ⟨F, hF, hx⟩ := OwnRow.of_own h
  rcases hF with ⟨hv, h0⟩ | ⟨g, cap, rfl, _, hnc, hr⟩
  · exact ⟨none, 0, by rw [hv, h0], fun hn => absurd hn (by omega)⟩
  · refine ⟨_, cap, rfl, fun hn => ⟨g, 0, rfl, hr.lt, fun i hi => ?_⟩⟩
    have e := callsL_get l i hi
    refine ⟨?_, ?_, ?_⟩
    · rw [Nat.zero_add, hr.cell (by omega), hx _ _ e.1]
    · rw [Nat.zero_add, hr.cell (by omega), hx _ _ e.2.1]
    · rw [Nat.zero_add, hr.cell (by omega), hx _ _ e.2.2]

/-- The log of a sort of n: Len once, then Less and Swap within range. -/
def LogOk (n : Nat) (l : Log) : Prop := ∃ r, l = (1, 0, 0) :: r ∧ ∀ c ∈ r, (c.1 = 2 ∨ c.1 = 3) ∧ c.2.1 < n ∧ c.2.2 < n
theorem LogOk.add {n : Nat} {l : Log} (h : LogOk n l) {c : Nat × Nat × Nat} (hc : (c.1 = 2 ∨ c.1 = 3) ∧ c.2.1 < n ∧ c.2.2 < n) : LogOk n (l ++ [c]) := by
  obtain ⟨r, rfl, hr⟩ := h
  refine ⟨r ++ [c], rfl, fun x hx => ?_⟩
  rcases List.mem_append.1 hx with hx | hx
  · exact hr x hx
  · rw [List.mem_singleton.1 hx]; exact hc
theorem LogOk.pos {n : Nat} {l : Log} (h : LogOk n l) : 0 < l.length := by obtain ⟨r, rfl, _⟩ := h; simp
theorem LogOk.first {n : Nat} {l : Log} (h : LogOk n l) : lgAt l 0 = (1, 0, 0) := by obtain ⟨r, rfl, _⟩ := h; rfl
theorem LogOk.later {n : Nat} {l : Log} (h : LogOk n l) {k : Nat} (hk : k + 1 < l.length) : ((lgAt l (k + 1)).1 = 2 ∨ (lgAt l (k + 1)).1 = 3) ∧ (lgAt l (k + 1)).2.1 < n ∧ (lgAt l (k + 1)).2.2 < n := by
  obtain ⟨r, rfl, hr⟩ := h
  have hk' : k < r.length := by simpa using hk
  have : lgAt ((1, 0, 0) :: r) (k + 1) = r[k] := by
    show r[k]?.getD (0, 0, 0) = _
    rw [List.getElem?_eq_getElem hk']; rfl
  rw [this]
  exact hr _ (List.getElem_mem hk')

/-- What the swaps of a log make of a list. -/
def replay (p : Nat → Nat) (l : Log) : Nat → Nat := l.foldl (fun p c => if c.1 = 3 then swapF p c.2.1 c.2.2 else p) p
theorem replay_add (p : Nat → Nat) (l : Log) (c : Nat × Nat × Nat) : replay p (l ++ [c]) = if c.1 = 3 then swapF (replay p l) c.2.1 c.2.2 else replay p l := by
  unfold replay; rw [List.foldl_append]; rfl
theorem take_succ_lg (l : Log) {k : Nat} (hk : k < l.length) : l.take (k + 1) = l.take k ++ [lgAt l k] := by
  rw [List.take_add_one, List.getElem?_eq_getElem hk]
  unfold lgAt
  rw [List.getElem?_eq_getElem hk]; rfl
end Go.Proofs.Ytjammaglboehcaa
