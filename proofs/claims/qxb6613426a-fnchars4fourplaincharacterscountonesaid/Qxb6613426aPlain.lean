/-
  PLAIN LAWS ON THE NUMBER OF RUNES OF A STRING (no Go in sight): a cut anywhere; four bytes a rune at most; ASCII ahead or behind.
-/
import Derived.Lib.RuneCountTail
import Derived.Lib.SpaceUEq
namespace Go.Proofs.Qxb6613426a.Plain
open Go Go.Lib

/-- The runes from place pos on. -/
def cf (s : ByteArray) (pos : Nat) : Nat := runeCountFrom s (s.size - pos) pos
/-- The width at place pos. -/
def wd (s : ByteArray) (pos : Nat) : Nat := (Utf8.decode s pos).2

theorem cf_end (s : ByteArray) (pos : Nat) (h : s.size ≤ pos) : cf s pos = 0 :=
  runeCountFrom_end s _ _ (by omega)

theorem wd_pos (s : ByteArray) (pos : Nat) (h : pos < s.size) : 1 ≤ wd s pos := decode_width_pos s pos h

theorem cf_step (s : ByteArray) (pos : Nat) (h : pos < s.size) : cf s pos = 1 + cf s (pos + wd s pos) := by
  have hw := wd_pos s pos h
  unfold cf
  obtain ⟨k, hk⟩ : ∃ k, s.size - pos = k + 1 := ⟨s.size - pos - 1, by omega⟩
  rw [hk]
  show (if pos < s.size then 1 + runeCountFrom s k (pos + wd s pos) else 0) = _
  rw [if_pos h, fuel_enough s k (s.size - (pos + wd s pos)) (pos + wd s pos) (by omega) (Nat.le_refl _)]

theorem runeCount_cf (s : ByteArray) : runeCount s = cf s 0 := rfl

theorem runeCount_tail (s : ByteArray) (i : Nat) : runeCount (s.extract i s.size) = cf s i := by
  unfold runeCount cf
  rw [tail_size, tail_count, Nat.add_zero]

/-! ### the widths -/
theorem wd_conts (s : ByteArray) (pos : Nat) (h : pos < s.size) :
    wd s pos ≤ 4 ∧ pos + wd s pos ≤ s.size ∧ ∀ j, pos < j → j < pos + wd s pos → (s.get! j).toNat / 64 = 2 := by
  unfold wd
  rw [decode_at]
  obtain ⟨c2, c3, c4, c5⟩ := decodeN_conts (s.size - pos) (s.get! pos).toNat (s.get! (pos + 1)).toNat (s.get! (pos + 2)).toNat (s.get! (pos + 3)).toNat
  refine ⟨c5, by omega, fun j h1 h2 => ?_⟩
  obtain rfl | rfl | rfl : j = pos + 1 ∨ j = pos + 2 ∨ j = pos + 3 := by omega
  · exact (c2 (by omega)).1
  · exact (c3 (by omega)).1
  · exact (c4 (by omega)).1

theorem wd_cont (s : ByteArray) (pos : Nat) (h : (s.get! pos).toNat / 64 = 2) : wd s pos = 1 := by
  unfold wd
  rw [decode_at, decodeN_cont _ _ _ _ _ h]

/-- Continuation bytes that are met one by one count one each. -/
theorem cf_run (s : ByteArray) : ∀ k pos, pos + k ≤ s.size → (∀ j, pos ≤ j → j < pos + k → (s.get! j).toNat / 64 = 2) → cf s pos = k + cf s (pos + k)
  | 0, pos, _, _ => by simp
  | k + 1, pos, hk, hc => by
    rw [cf_step s pos (by omega), wd_cont s pos (hc pos (Nat.le_refl _) (by omega)), cf_run s k (pos + 1) (by omega) (fun j h1 h2 => hc j (by omega) (by omega))]
    rw [show pos + 1 + k = pos + (k + 1) by omega]
    omega

/-! ### the head -/
theorem head_size (s : ByteArray) (i : Nat) (h : i ≤ s.size) : (s.extract 0 i).size = i := by
  rw [size_eq, extract_data, List.length_take, List.length_drop, ← size_eq]
  omega

theorem head_get! (s : ByteArray) (i j : Nat) (h : j < i) : (s.extract 0 i).get! j = s.get! j := by
  rw [← getD_get!', ← getD_get!', extract_data]
  simp [List.getD, h]

set_option maxRecDepth 100000 in
set_option maxHeartbeats 4000000 in
theorem decodeN_cut (n m b0 b1 b2 b3 a1 a2 a3 : Nat) (hm : 1 ≤ m) (hmn : m ≤ n) (h1 : 1 < m → a1 = b1) (h2 : 2 < m → a2 = b2) (h3 : 3 < m → a3 = b3) :
    ((decodeN n b0 b1 b2 b3).2 ≤ m → (decodeN m b0 a1 a2 a3).2 = (decodeN n b0 b1 b2 b3).2) ∧ (m < (decodeN n b0 b1 b2 b3).2 → (decodeN m b0 a1 a2 a3).2 = 1) := by
  by_cases m1 : 1 < m
  · obtain rfl := h1 m1
    by_cases m2 : 2 < m
    · obtain rfl := h2 m2
      by_cases m3 : 3 < m
      · obtain rfl := h3 m3
        unfold decodeN
        repeat' split
        all_goals first | (simp only; omega) | omega
      · unfold decodeN
        repeat' split
        all_goals first | (simp only; omega) | omega
    · unfold decodeN
      repeat' split
      all_goals first | (simp only; omega) | omega
  · unfold decodeN
    repeat' split
    all_goals first | (simp only; omega) | omega

theorem head_wd (s : ByteArray) (i pos : Nat) (hi : i ≤ s.size) (hp : pos < i) :
    (pos + wd s pos ≤ i → wd (s.extract 0 i) pos = wd s pos) ∧ (i < pos + wd s pos → wd (s.extract 0 i) pos = 1) := by
  have h := decodeN_cut (s.size - pos) (i - pos) (s.get! pos).toNat (s.get! (pos + 1)).toNat (s.get! (pos + 2)).toNat (s.get! (pos + 3)).toNat
    ((s.extract 0 i).get! (pos + 1)).toNat ((s.extract 0 i).get! (pos + 2)).toNat ((s.extract 0 i).get! (pos + 3)).toNat (by omega) (by omega)
    (fun h => by rw [head_get! s i _ (by omega)]) (fun h => by rw [head_get! s i _ (by omega)]) (fun h => by rw [head_get! s i _ (by omega)])
  rw [← decode_at, ← head_get! s i pos hp, show i - pos = (s.extract 0 i).size - pos by rw [head_size s i hi], ← decode_at, head_size s i hi] at h
  unfold wd
  exact ⟨fun g => h.1 (by omega), fun g => h.2 (by omega)⟩

/-! ### A CUT ANYWHERE -/
theorem cut (s : ByteArray) (i : Nat) (hi : i ≤ s.size) : ∀ k pos, pos ≤ i → i - pos ≤ k →
    cf s pos ≤ cf (s.extract 0 i) pos + cf s i ∧ cf (s.extract 0 i) pos + cf s i ≤ cf s pos + 3 ∧ ((i < s.size → (s.get! i).toNat / 64 ≠ 2) → cf (s.extract 0 i) pos + cf s i = cf s pos)
  | k, pos, hp, hk => by
    by_cases he : pos = i
    · subst he
      rw [cf_end (s.extract 0 pos) pos (by rw [head_size s pos hi]; exact Nat.le_refl _)]
      exact ⟨by omega, by omega, fun _ => by omega⟩
    · have hlt : pos < i := by omega
      match k, hk with
      | 0, hk => omega
      | k + 1, hk =>
        have hw := head_wd s i pos hi hlt
        obtain ⟨c4, cn, cc⟩ := wd_conts s pos (by omega)
        have w1 := wd_pos s pos (by omega)
        have e1 := cf_step s pos (by omega)
        have e2 := cf_step (s.extract 0 i) pos (by rw [head_size s i hi]; exact hlt)
        by_cases hs : pos + wd s pos ≤ i
        · rw [hw.1 hs] at e2
          obtain ⟨r1, r2, r3⟩ := cut s i hi k (pos + wd s pos) hs (by omega)
          exact ⟨by omega, by omega, fun g => by have := r3 g; omega⟩
        · rw [hw.2 (by omega)] at e2
          have e3 := cf_run (s.extract 0 i) (i - (pos + 1)) (pos + 1) (by rw [head_size s i hi]; omega) (fun j h1 h2 => by rw [head_get! s i j (by omega)]; exact cc j (by omega) (by omega))
          rw [cf_end (s.extract 0 i) (pos + 1 + (i - (pos + 1))) (by rw [head_size s i hi]; omega)] at e3
          have e4 := cf_run s (pos + wd s pos - i) i (by omega) (fun j h1 h2 => cc j (by omega) (by omega))
          rw [show i + (pos + wd s pos - i) = pos + wd s pos by omega] at e4
          exact ⟨by omega, by omega, fun g => absurd (cc i hlt (by omega)) (g (by omega))⟩

theorem runes_cut (s : ByteArray) (i : Nat) (hi : i ≤ s.size) :
    runeCount s ≤ runeCount (s.extract 0 i) + runeCount (s.extract i s.size) ∧ runeCount (s.extract 0 i) + runeCount (s.extract i s.size) ≤ runeCount s + 3 := by
  rw [runeCount_tail, runeCount_cf, runeCount_cf]
  obtain ⟨h1, h2, _⟩ := cut s i hi i 0 (Nat.zero_le _) (Nat.le_refl _)
  exact ⟨h1, h2⟩

theorem runes_cut_clean (s : ByteArray) (i : Nat) (hi : i ≤ s.size) (hc : i < s.size → (s.get! i).toNat / 64 ≠ 2) :
    runeCount s = runeCount (s.extract 0 i) + runeCount (s.extract i s.size) := by
  rw [runeCount_tail, runeCount_cf, runeCount_cf]
  exact ((cut s i hi i 0 (Nat.zero_le _) (Nat.le_refl _)).2.2 hc).symm

theorem cf_four (s : ByteArray) : ∀ k pos, s.size - pos ≤ k → s.size - pos ≤ 4 * cf s pos
  | k, pos, hk => by
    by_cases hp : pos < s.size
    · match k, hk with
      | 0, hk => omega
      | k + 1, hk =>
        obtain ⟨c4, cn, _⟩ := wd_conts s pos hp
        have w1 := wd_pos s pos hp
        have ih := cf_four s k (pos + wd s pos) (by omega)
        rw [cf_step s pos hp]
        omega
    · omega

theorem runes_four (s : ByteArray) : s.size ≤ 4 * runeCount s := by
  have := cf_four s s.size 0 (by omega)
  rw [runeCount_cf]
  omega

/-! ### ASCII ahead and behind -/
theorem append_size (s t : ByteArray) : (s ++ t).size = s.size + t.size := by
  simp

theorem append_get!_right (s t : ByteArray) (j : Nat) : (s ++ t).get! (s.size + j) = t.get! j := by
  rw [← getD_get!', ← getD_get!']
  have h : (s ++ t).data.toList = s.data.toList ++ t.data.toList := by simp
  rw [h, show s.size = s.data.toList.length from size_eq s]
  unfold List.getD
  rw [List.getElem?_append_right (Nat.le_add_right _ _), Nat.add_sub_cancel_left]

theorem append_get!_left (s t : ByteArray) (j : Nat) (h : j < s.size) : (s ++ t).get! j = s.get! j := by
  rw [← getD_get!', ← getD_get!']
  rw [size_eq] at h
  simp [List.getD, List.getElem?_append_left h]

theorem ext_data (s t : ByteArray) (h : s.data.toList = t.data.toList) : s = t := by
  cases s with
  | mk a => cases t with
    | mk b => simp at h; rw [h]

theorem append_head (s t : ByteArray) : (s ++ t).extract 0 s.size = s := by
  apply ext_data
  rw [extract_data]
  simp

theorem append_tail (s t : ByteArray) : (s ++ t).extract s.size (s ++ t).size = t := by
  apply ext_data
  rw [extract_data, append_size]
  have h : (s ++ t).data.toList = s.data.toList ++ t.data.toList := by simp
  rw [h, show s.size = s.data.toList.length from size_eq s, List.drop_left]
  exact List.take_of_length_le (by rw [← size_eq]; omega)

/-- Letters behind: each counts one. -/
theorem runes_behind (s t : ByteArray) (ha : ∀ j, j < t.size → (t.get! j).toNat < 128) (ht : runeCount t = t.size) : runeCount (s ++ t) = runeCount s + t.size := by
  have h := runes_cut_clean (s ++ t) s.size (by rw [append_size]; omega) (fun g => by
    have := append_get!_right s t 0
    rw [Nat.add_zero] at this
    rw [this]
    have := ha 0 (by rw [append_size] at g; omega)
    omega)
  rw [append_head, append_tail, ht] at h
  exact h

/-- Letters ahead: each counts one. -/
theorem runes_ahead (s t : ByteArray) (ha : ∀ j, j < t.size → (t.get! j).toNat < 128) : runeCount (t ++ s) = t.size + runeCount s := by
  have h := runeCount_split (t ++ s) t.size (by rw [append_size]; omega) (fun j hj => by rw [append_get!_left t s j hj]; exact ha j hj)
  rwa [append_tail] at h

/-- Letters alone. -/
theorem runes_letters (t : ByteArray) (ha : ∀ j, j < t.size → (t.get! j).toNat < 128) : runeCount t = t.size := by
  apply runeCount_ascii
  intro j h
  have := ha j h
  rwa [show t.get! j = t[j]'h from by cases t with | mk d => exact getElem!_pos d j h] at this

/-- THE LAW OF THE CUT, in counts by four. -/
theorem law_cut (s : ByteArray) (i : Nat) (hi : i ≤ s.size) :
    (runeCount s + 3) / 4 ≤ (runeCount (s.extract 0 i) + 3) / 4 + (runeCount (s.extract i s.size) + 3) / 4
    ∧ (runeCount (s.extract 0 i) + 3) / 4 + (runeCount (s.extract i s.size) + 3) / 4 ≤ (runeCount s + 3) / 4 + 2
    ∧ (s.size + 15) / 16 ≤ (runeCount s + 3) / 4 ∧ (runeCount s + 3) / 4 ≤ (s.size + 3) / 4 := by
  obtain ⟨h1, h2⟩ := runes_cut s i hi
  have h3 := runes_four s
  have h4 := runeCount_le s
  refine ⟨by omega, by omega, by omega, by omega⟩

end Go.Proofs.Qxb6613426a.Plain
