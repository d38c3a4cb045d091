/-
  What 'of bulk at most 1048576' gives of an argument's length.
-/
import Derived.Test.YtjammaglboehcaaRows
import Derived.Test.YtjammaglboehcaaOrdW
namespace Go.Proofs.Ytjammaglboehcaa
open Go.RowKit Go.Proofs
set_option linter.unusedVariables false

theorem bulk_pos {H : Type} (d : DataW H) : 1 ≤ Rows.uptoBulk d := by
  cases d with
  | lit l => cases l <;> simp [Rows.uptoBulk]
  | _ => simp [Rows.uptoBulk]
theorem bulk_len {H : Type} : ∀ es : List (DataW H), es.length ≤ Rows.uptoBulkAll es
  | [] => Nat.zero_le _
  | d :: r => by
    have h1 := bulk_pos d
    have h2 := bulk_len r
    simp only [Rows.uptoBulkAll, List.length_cons]; omega
theorem bulk_at {H : Type} : ∀ (ds : List (DataW H)) (j : Nat) (d : DataW H), ds[j]? = some d → Rows.uptoBulk d ≤ Rows.uptoBulkAll ds
  | [], j, d, h => by simp at h
  | x :: r, 0, d, h => by
    simp only [List.getElem?_cons_zero, Option.some.injEq] at h
    subst h
    simp only [Rows.uptoBulkAll]; omega
  | x :: r, j + 1, d, h => by
    rw [List.getElem?_cons_succ] at h
    have := bulk_at r j d h
    simp only [Rows.uptoBulkAll]; omega
theorem room_bulk {H : Type} {A : Option Addr} {c : Nat} {d : DataW H} (hr : Room A c d) : c + 1 ≤ Rows.uptoBulk d := by
  rcases hr with ⟨_, rfl, rfl⟩ | ⟨es, sp, rfl, rfl⟩
  · simp [Rows.uptoBulk]
  · have h1 := bulk_len es
    have h2 := bulk_len sp
    simp only [Rows.uptoBulk]; omega
theorem bulk_room {H : Type} {ds : List (DataW H)} {j : Nat} {d : DataW H} {A : Option Addr} {c : Nat} (hk : Rows.uptoSmall H ds = true) (hd : ds[j]? = some d) (hr : Room A c d) : c ≤ 1048575 := by
  have h1 := bulk_at ds j d hd
  have h2 := room_bulk hr
  have h3 : Rows.uptoBulkAll ds ≤ 1048576 := of_decide_eq_true hk
  omega
theorem bulk_order {H : Type} {ds : List (DataW H)} {j : Nat} {d0 d1 : DataW H} {A : Option Addr} {c : Nat} (hk : Rows.uptoSmall H ds = true) (hd : ds[j]? = some (.agg [d0, d1])) (hr : Room A c d1) : c ≤ 1048575 := by
  have h1 := bulk_at ds j _ hd
  have h2 := room_bulk hr
  have h3 : Rows.uptoBulkAll ds ≤ 1048576 := of_decide_eq_true hk
  simp only [Rows.uptoBulk, Rows.uptoBulkAll] at h1
  omega
end Go.Proofs.Ytjammaglboehcaa
