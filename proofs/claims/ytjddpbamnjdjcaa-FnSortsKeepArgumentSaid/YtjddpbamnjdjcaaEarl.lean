/-
  The contracts of the functions 'earlier' of the laws and of the reference: a string is before another one byte by byte.
-/
import Derived.Test.YtjddpbamnjdjcaaProg
import Derived.Test.YtjddpbamnjdjcaaWords
namespace Go.Proofs.Ytjddpbamnjdjcaa
open Go.RowKit Go.Proofs
set_option linter.unusedVariables false

/-- Before another one, byte by byte. -/
def ltS (a b : ByteArray) : Bool := decide (a.data.toList < b.data.toList)

/-- Lists that agree up to k. -/
def Agree (a b : ByteArray) (k : Nat) : Prop := a.data.toList.take k = b.data.toList.take k

theorem agree_lt_of {α : Type} [LT α] [DecidableLT α] [DecidableEq α] [Std.Irrefl (α := α) (· < ·)] : ∀ (l m : List α) (k : Nat) (h1 : k < l.length) (h2 : k < m.length), l.take k = m.take k → l[k] ≠ m[k] → (l < m ↔ l[k] < m[k])
  | [], _, k, h1, _, _, _ => absurd h1 (by simp)
  | _ :: _, [], k, _, h2, _, _ => absurd h2 (by simp)
  | x :: l, y :: m, 0, _, _, _, hne => by
    simp only [List.getElem_cons_zero] at hne ⊢
    rw [List.cons_lt_cons_iff]
    constructor
    · rintro (h | ⟨h, _⟩)
      · exact h
      · exact absurd h hne
    · exact .inl
  | x :: l, y :: m, k + 1, h1, h2, ht, hne => by
    simp only [List.take_succ_cons, List.cons.injEq] at ht
    obtain ⟨rfl, ht⟩ := ht
    simp only [List.getElem_cons_succ] at hne ⊢
    rw [List.cons_lt_cons_iff, ← agree_lt_of l m k (by simpa using h1) (by simpa using h2) ht hne]
    constructor
    · rintro (h | ⟨_, h⟩)
      · exact absurd h (Std.Irrefl.irrefl x)
      · exact h
    · exact fun h => .inr ⟨rfl, h⟩

theorem agree_end {α : Type} [LT α] [Std.Irrefl (α := α) (· < ·)] : ∀ (l m : List α) (k : Nat), l.take k = m.take k → (k = l.length ∨ k = m.length) → k ≤ l.length → k ≤ m.length → (l < m ↔ l.length < m.length)
  | [], [], _, _, _, _, _ => by simp [List.lt_irrefl]
  | [], y :: m, _, _, _, _, _ => by simp
  | x :: l, [], k, _, _, _, _ => by simp
  | x :: l, y :: m, 0, _, h, _, _ => by simp at h
  | x :: l, y :: m, k + 1, ht, h, h1, h2 => by
    simp only [List.take_succ_cons, List.cons.injEq] at ht
    obtain ⟨rfl, ht⟩ := ht
    have ih := agree_end l m k ht (by simpa using h) (by simpa using h1) (by simpa using h2)
    rw [List.cons_lt_cons_iff]
    simp only [List.length_cons, Nat.add_lt_add_iff_right]
    rw [← ih]
    constructor
    · rintro (h | ⟨_, h⟩)
      · exact absurd h (Std.Irrefl.irrefl x)
      · exact h
    · intro h
      exact .inr ⟨by trivial, h⟩

theorem ltS_at {a b : ByteArray} {k : Nat} (h : Agree a b k) (h1 : k < a.size) (h2 : k < b.size) (hne : a[k] ≠ b[k]) : ltS a b = decide (a[k].toNat < b[k].toNat) := by
  unfold ltS
  rw [decide_eq_decide, agree_lt_of a.data.toList b.data.toList k (by simpa using h1) (by simpa using h2) h (by simpa using (show ¬ a.data[k] = b.data[k] from hne))]
  simp only [Array.getElem_toList]
  rw [UInt8.lt_iff_toNat_lt]
  rfl

theorem ltS_end {a b : ByteArray} {k : Nat} (h : Agree a b k) (hk : k = a.size ∨ k = b.size) (h1 : k ≤ a.size) (h2 : k ≤ b.size) : ltS a b = decide (a.size < b.size) := by
  unfold ltS
  rw [decide_eq_decide, agree_end a.data.toList b.data.toList k h (by simpa using hk) (by simpa using h1) (by simpa using h2)]
  rfl

theorem agree_step {a b : ByteArray} {k : Nat} (h : Agree a b k) (h1 : k < a.size) (h2 : k < b.size) (he : a[k] = b[k]) : Agree a b (k + 1) := by
  unfold Agree at *
  rw [List.take_succ_eq_append_getElem (by simpa using h1), List.take_succ_eq_append_getElem (by simpa using h2), h]
  simpa using (show a.data[k] = b.data[k] from he)

/-- The model's '<' on strings is the order of the lists of bytes. -/
theorem bytesLess_is : ∀ x y : List UInt8, Op.bytesLess x y = decide (x < y)
  | x, [] => by cases x <;> simp [Op.bytesLess]
  | [], b :: y => by simp [Op.bytesLess]
  | a :: x, b :: y => by
    rw [Op.bytesLess, bytesLess_is x y, Bool.eq_iff_iff]
    simp [List.cons_lt_cons_iff]
theorem bytesLess_ltS (a b : ByteArray) : Op.bytesLess a.toList b.toList = ltS a b := by
  unfold ltS
  rw [bytesLess_is, ByteArray.toList_eq, ByteArray.toList_eq]

set_option maxHeartbeats 1000000 in
theorem earlierLaws (a b : ByteArray) (w : World) (ha : a.size ≤ 9223372036854775807) (hb : b.size ≤ 9223372036854775807) :
    Calls Try.prog 51 #[.string a, .string b] w fun e w' => e = .returned (.bool (ltS a b)) ∧ ∃ q, w' = w.drewN q := by
  generalize hr : ltS a b = r
  have HR := Lib.hid hr; clear hr
  go_enter Try.func51, Try.ntmps51
  go_wp2
  go_loopw [5] (fun vi wr => ∃ k q : Nat, k ≤ a.size ∧ k ≤ b.size ∧ vi = .int .i64 k ∧ wr = w.drewN q ∧ Hid (Agree a b k)) (fun vi _ => a.size - (intOf vi).toNat)
  case atStart => exact ⟨0, 0, Nat.zero_le _, Nat.zero_le _, rfl, rfl, show Agree a b 0 by unfold Agree; simp⟩
  case round =>
    obtain ⟨k, q, hka, hkb, rfl, rfl, HI⟩ := hrel
    by_cases h1 : k < a.size
    · by_cases h2 : k < b.size
      · have h1z : (k : Int) < (a.size : Int) := by omega
        have h2z : (k : Int) < (b.size : Int) := by omega
        by_cases hne : a[k] = b[k]
        · have hq : ((a[k].toNat : Int) != (b[k].toNat : Int)) = false := by rw [hne]; simp
          have HN := Lib.hid hne; clear hne
          go_wp2
          go_quiet (fail)
          go_wp2
          go_roundw
          case rel => exact ⟨k + 1, _, by omega, by omega, by go_num, rfl, agree_step HI.out h1 h2 HN.out⟩
          case measure => simp [intOf]; omega
        · have hq : ((a[k].toNat : Int) != (b[k].toNat : Int)) = true := by
            rw [bne_iff_ne]; intro he; exact hne (UInt8.toNat_inj.1 (by omega))
          have HL := Lib.hid (ltS_at HI.out h1 h2 hne); clear hne
          go_wp2
          go_quiet (fail)
          go_wp2
          go_quiet (fail)
          go_wp2
          go_ret
          exact ⟨by rw [← HR.out, HL.out]; rfl, _, by rw [World.drewN_drewN, World.drewN_drewN]⟩
      · have HL := Lib.hid (ltS_end HI.out (.inr (by omega)) hka hkb)
        go_wp2
        go_ret
        exact ⟨by rw [← HR.out, HL.out]; rfl, _, rfl⟩
    · have HL := Lib.hid (ltS_end HI.out (.inl (by omega)) hka hkb)
      have hd : decide ((k : Int) < (a.size : Int)) = false := decide_eq_false (by omega)
      go_wp2
      go_ret
      exact ⟨by rw [← HR.out, HL.out]; rfl, _, rfl⟩
set_option maxHeartbeats 1000000 in
theorem earlierSpec (a b : ByteArray) (w : World) (ha : a.size ≤ 9223372036854775807) (hb : b.size ≤ 9223372036854775807) :
    Calls Try.prog 62 #[.string a, .string b] w fun e w' => e = .returned (.bool (ltS a b)) ∧ ∃ q, w' = w.drewN q := by
  generalize hr : ltS a b = r
  have HR := Lib.hid hr; clear hr
  go_enter Try.func62, Try.ntmps62
  go_wp2
  go_loopw [5] (fun vi wr => ∃ k q : Nat, k ≤ a.size ∧ k ≤ b.size ∧ vi = .int .i64 k ∧ wr = w.drewN q ∧ Hid (Agree a b k)) (fun vi _ => a.size - (intOf vi).toNat)
  case atStart => exact ⟨0, 0, Nat.zero_le _, Nat.zero_le _, rfl, rfl, show Agree a b 0 by unfold Agree; simp⟩
  case round =>
    obtain ⟨k, q, hka, hkb, rfl, rfl, HI⟩ := hrel
    by_cases h1 : k < a.size
    · by_cases h2 : k < b.size
      · have h1z : (k : Int) < (a.size : Int) := by omega
        have h2z : (k : Int) < (b.size : Int) := by omega
        by_cases hne : a[k] = b[k]
        · have hq : ((a[k].toNat : Int) != (b[k].toNat : Int)) = false := by rw [hne]; simp
          have HN := Lib.hid hne; clear hne
          go_wp2
          go_quiet (fail)
          go_wp2
          go_roundw
          case rel => exact ⟨k + 1, _, by omega, by omega, by go_num, rfl, agree_step HI.out h1 h2 HN.out⟩
          case measure => simp [intOf]; omega
        · have hq : ((a[k].toNat : Int) != (b[k].toNat : Int)) = true := by
            rw [bne_iff_ne]; intro he; exact hne (UInt8.toNat_inj.1 (by omega))
          have HL := Lib.hid (ltS_at HI.out h1 h2 hne); clear hne
          go_wp2
          go_quiet (fail)
          go_wp2
          go_quiet (fail)
          go_wp2
          go_ret
          exact ⟨by rw [← HR.out, HL.out]; rfl, _, by rw [World.drewN_drewN, World.drewN_drewN]⟩
      · have HL := Lib.hid (ltS_end HI.out (.inr (by omega)) hka hkb)
        go_wp2
        go_ret
        exact ⟨by rw [← HR.out, HL.out]; rfl, _, rfl⟩
    · have HL := Lib.hid (ltS_end HI.out (.inl (by omega)) hka hkb)
      have hd : decide ((k : Int) < (a.size : Int)) = false := decide_eq_false (by omega)
      go_wp2
      go_ret
      exact ⟨by rw [← HR.out, HL.out]; rfl, _, rfl⟩
end Go.Proofs.Ytjddpbamnjdjcaa
