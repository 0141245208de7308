import Derived.Test.Qxb6603385aWq
namespace Go.Proofs.Qxb6603385a
open Go.RowKit

theorem unesc_A (s : ByteArray) (pos : Nat) (h1 : pos + 1 < s.size) (h33 : bAt s pos = 33) (ha : 97 ≤ bAt s (pos + 1)) (hz : bAt s (pos + 1) ≤ 122) :
    unesc (s.data.toList.drop pos) = (bAt s (pos + 1) - 32).toUInt8 :: unesc (s.data.toList.drop (pos + 2)) := by
  rw [drop_one s pos (by omega), drop_one s (pos + 1) h1]
  exact unesc_bang _ _ _ h33 ha hz

theorem unesc_B (s : ByteArray) (pos : Nat) (h : pos < s.size) (hn : ¬ (pos + 1 < s.size ∧ bAt s pos = 33 ∧ 97 ≤ bAt s (pos + 1) ∧ bAt s (pos + 1) ≤ 122)) :
    unesc (s.data.toList.drop pos) = s.get! pos :: unesc (s.data.toList.drop (pos + 1)) := by
  rw [drop_one s pos h]
  refine unesc_plain _ _ (fun d rest hd hc => hn ?_)
  by_cases h1 : pos + 1 < s.size
  · rw [drop_one s (pos + 1) h1] at hd
    simp only [List.cons.injEq] at hd
    rw [← hd.1] at hc
    exact ⟨h1, hc⟩
  · have hl : s.data.toList.length = s.size := by obtain ⟨d⟩ := s; simp; rfl
    rw [List.drop_eq_nil_of_le (by omega)] at hd
    cases hd

theorem low_cells {b : Nat} (h0 : 97 ≤ b) (h : b ≤ 122) : [Value.int .u8 ((b : Int) - 32)] = Lib.byteCells [(b - 32).toUInt8] := by
  have e : ((b - 32).toUInt8).toNat = b - 32 := by simp; omega
  have e2 : ((b - 32 : Nat) : Int) = (b : Int) - 32 := by omega
  simp only [Lib.byteCells, List.map_cons, List.map_nil, e, e2]

set_option maxHeartbeats 1000000 in
set_option maxRecDepth 100000 in
theorem unescape_any (s : ByteArray) (w : World) (hs : s.size ≤ 16777216) :
    Calls Try.prog 21 #[.string s] w fun e w' => e = .returned (.string ⟨(unesc s.data.toList).toArray⟩) ∧ Below w.heap.size w w' := by
  obtain ⟨i0, hi, hz0, hz1, hz2⟩ := info_parts Try.info5
  have hmk := makeBytes s.size (by omega)
  go_enter Try.func21, Try.ntmps21
  go_wp2
  clear hmk
  go_loopw [3, 4] (fun out i wr => ∃ (pos : Nat) (acc : List UInt8), pos ≤ s.size ∧ i = .int .i64 pos ∧ out = .slice (some ⟨w.heap.size, 0, none⟩) acc.length s.size ∧
      wr.ownsRow w.heap.size 5 1 (.slice (some ⟨w.heap.size, 0, none⟩) acc.length s.size) acc.length (Lib.byteCells acc) ∧ Below w.heap.size w wr ∧ acc ++ unesc (s.data.toList.drop pos) = unesc s.data.toList ∧ acc.length ≤ pos)
    (fun _ i _ => s.size - (intOf i).toNat)
  case atStart => exact ⟨0, [], Nat.zero_le _, rfl, rfl, own_bytes w w.heap.size _ (by omega) (Nat.le_refl _), (Below.refl _ _).alloc (Nat.le_refl _) _, by rw [List.drop_zero]; rfl, by simp⟩
  case round =>
    obtain ⟨pos, acc, hps, rfl, rfl, hown, hbw, hacc, hal⟩ := hrel
    have hz := hbw.size
    by_cases hp : pos < s.size
    case pos =>
      generalize hn : acc.length = n at hown hal ⊢
      have Hn : Hid (acc.length = n) := hn
      clear hn
      have hb := bAt_eq s pos hp
      have hbl : (s[pos]'hp).toNat < 256 := (s[pos]'hp).toNat_lt
      by_cases hA : ∃ h1 : pos + 1 < s.size, (s[pos]'hp).toNat = 33 ∧ 97 ≤ (s[pos + 1]'h1).toNat ∧ (s[pos + 1]'h1).toNat ≤ 122
      case pos =>
        obtain ⟨h1, h33, ha, hzz⟩ := hA
        have hb1 := bAt_eq s (pos + 1) h1
        rw [unesc_A s pos h1 (by rw [hb]; exact h33) (by rw [hb1]; exact ha) (by rw [hb1]; exact hzz), hb1] at hacc
        have Hacc : Hid (acc ++ ((s[pos + 1]'h1).toNat - 32).toUInt8 :: unesc (s.data.toList.drop (pos + 2)) = unesc s.data.toList) := hacc
        have h33' : (((s[pos]'hp).toNat : Int) == 33) = true := by simp [h33]
        clear hacc hb hb1 h33
        go_wp2_with (at_builtin; refine wpList_append_fits _ rfl (.tmp 39) (.tmp 45) 39 rfl w.heap.size 5 i0 1 Try.underlying39 hi hz1 w.heap.size n s.size _ rfl (hown.alloc _) ⟨_, 0, none⟩ 1 1 [.int .u8 (((s[pos + 1]'h1).toNat : Int) - 32)] rfl rfl (news_bytes _ _) (u8_oneCell (by simp)) (by omega) ?_; intro w1 v0 g1)
        have B1 := below_grown hbw hz g1 (Nat.le_refl _)
        go_roundw
        case rel =>
          refine ⟨pos + 2, acc ++ [((s[pos + 1]'h1).toNat - 32).toUInt8], by omega, by go_num, len_step Hn.out rfl, own_step Hn.out rfl (low_cells ha hzz) v0, B1, ?_, ?_⟩
          · rw [List.append_assoc]; exact Hacc.out
          · rw [List.length_append, Hn.out]; simp; omega
        case measure => simp [intOf]; omega
      rw [unesc_B s pos hp (by rintro ⟨h1, h2, h3, h4⟩; rw [bAt_eq s (pos + 1) h1] at h3 h4; exact hA ⟨h1, by rw [← hb]; exact h2, h3, h4⟩)] at hacc
      have Hacc : Hid (acc ++ s.get! pos :: unesc (s.data.toList.drop (pos + 1)) = unesc s.data.toList) := hacc
      have hways : ((((s[pos]'hp).toNat : Int) == 33) = false) ∨ ((((s[pos]'hp).toNat : Int) == 33) = true ∧ ¬ pos + 1 < s.size) ∨
          (∃ h1 : pos + 1 < s.size, (((s[pos]'hp).toNat : Int) == 33) = true ∧ (s[pos + 1]'h1).toNat < 97) ∨ (∃ h1 : pos + 1 < s.size, (((s[pos]'hp).toNat : Int) == 33) = true ∧ 97 ≤ (s[pos + 1]'h1).toNat ∧ 122 < (s[pos + 1]'h1).toNat) := by
        by_cases c1 : (s[pos]'hp).toNat = 33
        · have c1' : (((s[pos]'hp).toNat : Int) == 33) = true := by simp [c1]
          by_cases c2 : pos + 1 < s.size
          · by_cases c3 : (s[pos + 1]'c2).toNat < 97
            · exact .inr (.inr (.inl ⟨c2, c1', c3⟩))
            · refine .inr (.inr (.inr ⟨c2, c1', by omega, ?_⟩))
              rcases Nat.lt_or_ge 122 (s[pos + 1]'c2).toNat with h | h
              · exact h
              · exact absurd ⟨c2, c1, by omega, h⟩ hA
          · exact .inr (.inl ⟨c1', c2⟩)
        · exact .inl (by simp; omega)
      clear hA hacc hb
      rcases hways with hw1 | ⟨hw1, hw2⟩ | ⟨h1, hw1, hw2⟩ | ⟨h1, hw1, hw2, hw3⟩
      all_goals
        go_wp2_with (at_builtin; refine wpList_append_fits _ rfl (.tmp 49) (.tmp 51) 39 rfl w.heap.size 5 i0 1 Try.underlying39 hi hz1 w.heap.size n s.size _ rfl (hown.alloc _) ⟨_, 0, none⟩ 1 1 [.int .u8 (((s[pos]'hp).toNat : Int))] rfl rfl (news_bytes _ _) (u8_oneCell (by simp)) (by omega) ?_; intro w1 v0 g1)
        have B1 := below_grown hbw hz g1 (Nat.le_refl _)
        go_roundw
        case rel =>
          refine ⟨pos + 1, acc ++ [s.get! pos], by omega, by go_num, len_step Hn.out rfl, own_step Hn.out rfl (byte_cell s pos hp) v0, B1, ?_, ?_⟩
          · rw [List.append_assoc]; exact Hacc.out
          · rw [List.length_append, Hn.out]; simp; omega
        case measure => simp [intOf]; omega
    have hl : s.data.toList.length = s.size := by obtain ⟨d⟩ := s; simp; rfl
    rw [List.drop_eq_nil_of_le (by omega)] at hacc
    have hcv := conv_own wr w.heap.size w.heap.size s.size acc hown
    have hfin : acc = unesc s.data.toList := by rw [← hacc]; simp [unesc]
    have Hfin : Hid (acc = unesc s.data.toList) := hfin
    clear hfin
    clear hacc hl
    go_wp2
    go_ret
    exact ⟨by rw [← Hfin.out]; rfl, hbw⟩

theorem fold_cap {b : Nat} (h : b ≤ 90) : [Value.int .u8 ((b : Int) + 32)] = Lib.byteCells [(b + 32).toUInt8] := by
  have e : ((b + 32).toUInt8).toNat = b + 32 := by simp; omega
  simp only [Lib.byteCells, List.map_cons, List.map_nil, e]
  rfl

theorem fold_step (s : ByteArray) (pos : Nat) (h : pos < s.size) : (s.data.toList.drop pos).map foldB = foldB (s.get! pos) :: (s.data.toList.drop (pos + 1)).map foldB := by
  rw [drop_one s pos h]; rfl

set_option maxHeartbeats 1000000 in
set_option maxRecDepth 100000 in
theorem fold_any (s : ByteArray) (w : World) (hs : s.size ≤ 16777216) :
    Calls Try.prog 22 #[.string s] w fun e w' => e = .returned (.string ⟨(s.data.toList.map foldB).toArray⟩) ∧ Below w.heap.size w w' := by
  obtain ⟨i0, hi, hz0, hz1, hz2⟩ := info_parts Try.info5
  have hmk := makeBytes s.size (by omega)
  go_enter Try.func22, Try.ntmps22
  go_wp2
  clear hmk
  go_loopw [3, 4] (fun out i wr => ∃ (pos : Nat) (acc : List UInt8), pos ≤ s.size ∧ i = .int .i64 pos ∧ out = .slice (some ⟨w.heap.size, 0, none⟩) acc.length s.size ∧
      wr.ownsRow w.heap.size 5 1 (.slice (some ⟨w.heap.size, 0, none⟩) acc.length s.size) acc.length (Lib.byteCells acc) ∧ Below w.heap.size w wr ∧ acc ++ (s.data.toList.drop pos).map foldB = s.data.toList.map foldB ∧ acc.length ≤ pos)
    (fun _ i _ => s.size - (intOf i).toNat)
  case atStart => exact ⟨0, [], Nat.zero_le _, rfl, rfl, own_bytes w w.heap.size _ (by omega) (Nat.le_refl _), (Below.refl _ _).alloc (Nat.le_refl _) _, by rw [List.drop_zero]; rfl, by simp⟩
  case round =>
    obtain ⟨pos, acc, hps, rfl, rfl, hown, hbw, hacc, hal⟩ := hrel
    have hz := hbw.size
    by_cases hp : pos < s.size
    case pos =>
      generalize hn : acc.length = n at hown hal ⊢
      have Hn : Hid (acc.length = n) := hn
      clear hn
      have hb : (s.get! pos).toNat = (s[pos]'hp).toNat := bAt_eq s pos hp
      have hbl : (s[pos]'hp).toNat < 256 := (s[pos]'hp).toNat_lt
      rw [fold_step s pos hp] at hacc
      by_cases hA : 65 ≤ (s[pos]'hp).toNat ∧ (s[pos]'hp).toNat ≤ 90
      case pos =>
        rw [foldB, hb, if_pos hA] at hacc
        have Hacc : Hid (acc ++ ((s[pos]'hp).toNat + 32).toUInt8 :: (s.data.toList.drop (pos + 1)).map foldB = s.data.toList.map foldB) := hacc
        obtain ⟨hA1, hA2⟩ := hA
        clear hacc hb
        go_wp2_with (at_builtin; refine wpList_append_fits _ rfl (.tmp 26) (.tmp 28) 39 rfl w.heap.size 5 i0 1 Try.underlying39 hi hz1 w.heap.size n s.size _ rfl (hown.alloc _) ⟨_, 0, none⟩ 1 1 [.int .u8 (((s[pos]'hp).toNat : Int) + 32)] rfl rfl (news_bytes _ _) (u8_oneCell (by simp)) (by omega) ?_; intro w1 v0 g1)
        have B1 := below_grown hbw hz g1 (Nat.le_refl _)
        go_roundw
        case rel =>
          refine ⟨pos + 1, acc ++ [((s[pos]'hp).toNat + 32).toUInt8], by omega, by go_num, len_step Hn.out rfl, own_step Hn.out rfl (fold_cap hA2) v0, B1, ?_, ?_⟩
          · rw [List.append_assoc]; exact Hacc.out
          · rw [List.length_append, Hn.out]; simp; omega
        case measure => simp [intOf]; omega
      rw [foldB, hb, if_neg hA] at hacc
      have Hacc : Hid (acc ++ s.get! pos :: (s.data.toList.drop (pos + 1)).map foldB = s.data.toList.map foldB) := hacc
      have hways : (s[pos]'hp).toNat < 65 ∨ (65 ≤ (s[pos]'hp).toNat ∧ 90 < (s[pos]'hp).toNat) := by omega
      clear hacc hb hA
      rcases hways with hw1 | ⟨hw1, hw2⟩
      all_goals
        go_wp2_with (at_builtin; refine wpList_append_fits _ rfl (.tmp 26) (.tmp 28) 39 rfl w.heap.size 5 i0 1 Try.underlying39 hi hz1 w.heap.size n s.size _ rfl (hown.alloc _) ⟨_, 0, none⟩ 1 1 [.int .u8 (((s[pos]'hp).toNat : Int))] rfl rfl (news_bytes _ _) (u8_oneCell (by simp)) (by omega) ?_; intro w1 v0 g1)
        have B1 := below_grown hbw hz g1 (Nat.le_refl _)
        go_roundw
        case rel =>
          refine ⟨pos + 1, acc ++ [s.get! pos], by omega, by go_num, len_step Hn.out rfl, own_step Hn.out rfl (byte_cell s pos hp) v0, B1, ?_, ?_⟩
          · rw [List.append_assoc]; exact Hacc.out
          · rw [List.length_append, Hn.out]; simp; omega
        case measure => simp [intOf]; omega
    have hl : s.data.toList.length = s.size := by obtain ⟨d⟩ := s; simp; rfl
    rw [List.drop_eq_nil_of_le (by omega)] at hacc
    have hcv := conv_own wr w.heap.size w.heap.size s.size acc hown
    have hfin : acc = s.data.toList.map foldB := by rw [← hacc]; simp
    have Hfin : Hid (acc = s.data.toList.map foldB) := hfin
    clear hfin
    clear hacc hl
    go_wp2
    go_ret
    exact ⟨by rw [← Hfin.out]; rfl, hbw⟩

/-- All that the law asks of one string: what it escapes to, that un-escaping gives it back, that folding leaves it. -/
theorem escape_facts (s : ByteArray) (hs : s.size ≤ 1048576) (hv : validB s = true) (hb : ∀ k, k < s.size → bAt s k ≠ 33) :
    ∃ E : ByteArray, E.data.toList = escB s.data.toList ∧ (∀ c ∈ s.data.toList, c.toNat ≠ 33) ∧
      (∀ w, Calls Try.prog 15 #[.string s] w fun e w' => e = .returned (.string E) ∧ Below w.heap.size w w') ∧
      (∀ w, Calls Try.prog 21 #[.string E] w fun e w' => e = .returned (.string s) ∧ Below w.heap.size w w') ∧
      (∀ w, Calls Try.prog 22 #[.string E] w fun e w' => e = .returned (.string E) ∧ Below w.heap.size w w') := by
  have he := esc_valid s hv
  have hne : ∀ c ∈ s.data.toList, c.toNat ≠ 33 := by
    intro c hc
    obtain ⟨k, hk⟩ := List.getElem?_of_mem hc
    have hks : k < s.size := by
      have := (List.getElem?_eq_some_iff.1 hk).1
      obtain ⟨d⟩ := s
      have h' : k < d.size := by simpa using this
      exact h'
    rw [get_list s k hks] at hk
    cases hk
    exact hb k hks
  have hle : (esc s).length ≤ 4 * s.size := by
    rw [he]
    have h2 : ∀ l : List UInt8, (escB l).length ≤ 4 * l.length := by
      intro l
      induction l with
      | nil => simp [escB]
      | cons c l ih =>
        have h1 : (escByte c).length ≤ 2 := by unfold escByte; split <;> simp
        simp only [escB, List.flatMap_cons, List.length_append, List.length_cons] at ih ⊢
        omega
    have hl : s.data.toList.length = s.size := by obtain ⟨d⟩ := s; simp; rfl
    have := h2 s.data.toList
    omega
  have hd : (⟨(esc s).toArray⟩ : ByteArray).data.toList = esc s := rfl
  have hsz : (⟨(esc s).toArray⟩ : ByteArray).size = (esc s).length := by show (esc s).toArray.size = _; simp
  refine ⟨⟨(esc s).toArray⟩, by rw [hd, he], hne, fun w => ?_, fun w => ?_, fun w => ?_⟩
  · exact (zzescape_any s w (by omega)).mono fun e w' ⟨h1, _, h3⟩ => ⟨h1, h3⟩
  · refine (unescape_any ⟨(esc s).toArray⟩ w (by omega)).mono fun e w' ⟨h1, h2⟩ => ⟨?_, h2⟩
    rw [h1, hd, he, unesc_escB _ hne]
  · refine (fold_any ⟨(esc s).toArray⟩ w (by omega)).mono fun e w' ⟨h1, h2⟩ => ⟨?_, h2⟩
    rw [h1, hd, he, fold_escB]

set_option maxHeartbeats 400000 in
theorem zzbytes19_any (s t : ByteArray) (w : World) (hs : s.size ≤ maxLen) (ht : t.size ≤ maxLen) :
    Calls Try.prog 19 #[.string s, .string t] w fun e w' => (e = .returned (.bool false) ∨ (e = .returned (.bool true) ∧ s.size + t.size ≤ 1048576)) ∧ w' = w := by
  unfold maxLen at hs ht
  by_cases h : s.size ≤ 1048576
  case neg => go_enter Try.func19, Try.ntmps19; go_wp2; go_ret; exact ⟨.inl rfl, rfl⟩
  by_cases h2 : t.size ≤ 1048576
  case neg => go_enter Try.func19, Try.ntmps19; go_wp2; go_ret; exact ⟨.inl rfl, rfl⟩
  by_cases h3 : s.size + t.size ≤ 1048576
  case neg => go_enter Try.func19, Try.ntmps19; go_wp2; go_ret; exact ⟨.inl rfl, rfl⟩
  go_enter Try.func19, Try.ntmps19
  go_wp2
  go_ret
  exact ⟨.inr ⟨rfl, h3⟩, rfl⟩

theorem toList_ne {a b : ByteArray} (h : a.data.toList ≠ b.data.toList) : (a.toList == b.toList) = false := by
  rw [beq_eq_false_iff_ne]
  rw [ByteArray.toList_eq, ByteArray.toList_eq]
  exact h

set_option maxHeartbeats 1000000 in
theorem law7 (s t : ByteArray) (hs : s.size ≤ maxLen) (ht : t.size ≤ maxLen) (w : World) :
    Calls Try.prog 7 #[.string s, .string t] w fun e w' => e = .returned (.bool true) ∧ Below w.heap.size w w' := by
  go_enter Try.func7, Try.ntmps7
  go_wp2_with fail
  refine (zzbytes19_any s t w hs ht).mono ?_
  rintro e W ⟨rfl | ⟨rfl, hsz⟩, rfl⟩
  · go_wp2_with fail
    go_ret
    exact ⟨rfl, Below.refl _ _⟩
  unfold maxLen at hs ht
  have c1 := valid_any s W (by omega)
  have c2 := valid_any t W (by omega)
  cases hvs : validB s
  case false =>
    rw [hvs] at c1
    clear hvs c2
    go_wp2_with fail
    refine c1.mono ?_
    rintro e W' ⟨rfl, rfl⟩
    go_wp2_with fail
    go_ret
    exact ⟨rfl, Below.refl _ _⟩
  rw [hvs] at c1
  cases hvt : validB t
  case false =>
    rw [hvt] at c2
    clear hvs hvt
    go_wp2_with fail
    refine c1.mono ?_
    clear c1
    rintro e W' ⟨rfl, rfl⟩
    go_wp2_with fail
    refine c2.mono ?_
    clear c2
    rintro e W' ⟨rfl, rfl⟩
    go_wp2_with fail
    go_ret
    exact ⟨rfl, Below.refl _ _⟩
  rw [hvt] at c2
  have Hvs : Hid (validB s = true) := hvs
  have Hvt : Hid (validB t = true) := hvt
  clear hvs hvt
  go_wp2_with fail
  refine c1.mono ?_
  clear c1
  rintro e W1 ⟨rfl, rfl⟩
  go_wp2_with fail
  refine c2.mono ?_
  clear c2
  rintro e W2 ⟨rfl, rfl⟩
  go_wp2_with fail
  refine (bang_any s _ (by omega)).mono ?_
  rintro e W3 ⟨rfl | ⟨rfl, hbs⟩, rfl⟩
  · go_wp2_with fail
    go_ret
    exact ⟨rfl, Below.refl _ _⟩
  go_wp2_with fail
  refine (bang_any t _ (by omega)).mono ?_
  rintro e W4 ⟨rfl | ⟨rfl, hbt⟩, rfl⟩
  · go_wp2_with fail
    go_ret
    exact ⟨rfl, Below.refl _ _⟩
  obtain ⟨E, hE, hns, eS, uS, fS⟩ := escape_facts s (by omega) Hvs.out hbs
  obtain ⟨F, hF, hnt, eT, uT, fT⟩ := escape_facts t (by omega) Hvt.out hbt
  have hst : Hid (s = t ∨ ((s.toList == t.toList) = false ∧ (E.toList == F.toList) = false)) := by
    by_cases h : s.data.toList = t.data.toList
    · left
      obtain ⟨d⟩ := s
      obtain ⟨d'⟩ := t
      simp at h
      rw [h]
    · right
      exact ⟨toList_ne h, toList_ne (by rw [hE, hF]; exact fun hh => h (escB_inj hns hnt hh))⟩
  clear hE hF hns hnt hbs hbt Hvs Hvt
  go_wp2_with fail
  refine (eS _).mono ?_
  rintro e V1 ⟨rfl, b1⟩
  go_wp2_with fail
  refine (eT _).mono ?_
  rintro e V2 ⟨rfl, b2⟩
  have d2 := b1.trans (b2.mono b1.size)
  go_wp2_with fail
  refine (uS _).mono ?_
  rintro e V3 ⟨rfl, b3⟩
  have d3 := d2.trans (b3.mono d2.size)
  go_wp2_with fail
  refine (uT _).mono ?_
  rintro e V4 ⟨rfl, b4⟩
  have d4 := d3.trans (b4.mono d3.size)
  rcases hst.out with h | ⟨h1, h2⟩
  · clear hst eS uS fS eT uT fT
    subst h
    go_wp2_with fail
    go_ret
    exact ⟨rfl, d4⟩
  · clear hst eS uS eT uT
    go_wp2_with fail
    refine (fS _).mono ?_
    rintro e V5 ⟨rfl, b5⟩
    have d5 := d4.trans (b5.mono d4.size)
    go_wp2_with fail
    refine (fT _).mono ?_
    rintro e V6 ⟨rfl, b6⟩
    have d6 := d5.trans (b6.mono d5.size)
    go_wp2_with fail
    go_ret
    exact ⟨rfl, d6⟩

end Go.Proofs.Qxb6603385a
