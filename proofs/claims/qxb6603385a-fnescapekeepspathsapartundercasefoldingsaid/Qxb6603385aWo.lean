import Derived.Test.Qxb6603385aWn
import Derived.Deep.AppendLies
namespace Go.Proofs.Qxb6603385a
open Go.RowKit

theorem makeBytes (c : Nat) (hc : c ≤ 1073741824) (w : World) :
    Sem.run Try.prog (Instr.makeSlice 39 (.int .i64 0) (.int .i64 (c : Int))) w = .ok (.slice (some ⟨w.heap.size, 0, none⟩) 0 c) (w.alloc (.cells (madeCells #[.int .u8 0] c) 5)) := by
  obtain ⟨i0, hi, hz0, hz1, hz2⟩ := info_parts Try.info5
  rw [run_make w 39 5 i0 (.int .u8 0) Try.underlying39 hi hz0 .i64 .i64 0 c (by omega) (by omega) (by rw [hz2]; omega) (by omega), hz1]
  simp only [Value.cells, Int.toNat_natCast, Nat.mul_one]
  rfl

theorem own_bytes (W : World) (base c : Nat) (hc : c ≤ 1073741824) (hb : base ≤ W.heap.size) :
    (W.alloc (.cells (madeCells #[.int .u8 0] c) 5)).ownsRow base 5 1 (.slice (some ⟨W.heap.size, 0, none⟩) 0 c) 0 (Lib.byteCells []) :=
  ⟨rfl, .inr ⟨_, _, _, rfl, hb, heap_alloc_new _ _, Nat.zero_le _, by unfold maxLen; omega, by rw [size_madeCells, Nat.mul_one], rfl⟩⟩

/-- 'string(out)' of a row that the call owns. -/
theorem conv_own (w : World) (base g cap : Nat) (l : List UInt8) (h : w.ownsRow base 5 1 (.slice (some ⟨g, 0, none⟩) l.length cap) l.length (Lib.byteCells l)) :
    (convert 39 9 (.slice (some ⟨g, 0, none⟩) l.length cap)).run Try.prog w = .ok (.string ⟨l.toArray⟩) w := by
  refine run_convert_bytes_back w 39 9 5 ⟨g, 0, none⟩ cap l Try.underlying39 Try.underlying5 Try.underlying9 (fun j hj => ?_)
  have hadd : (⟨g, 0, none⟩ : Addr).add j = ⟨g, j, none⟩ := by unfold Addr.add; split <;> simp_all
  rw [hadd, h.cellAt j (by omega)]
  simp [Lib.byteCells, hj]

theorem news_bytes (w : World) (cs : List Value) : ∀ j u, cs[j]? = some u → (w.alloc (.cells cs.toArray 5)).cell? ((⟨w.heap.size, 0, none⟩ : Addr).add j) = some u := by
  have h := World.news_of_block (w := w.alloc (.cells cs.toArray 5)) (t := 5) (fr := (0, 0)) (heap_alloc_new _ _)
  simpa using h
theorem u8_oneCell {cs : List Value} (h : ∀ u ∈ cs, ∃ n, u = .int .u8 n) : ∀ u ∈ cs, u.oneCell' = true := by
  intro u hu; obtain ⟨n, rfl⟩ := h u hu; rfl

theorem below_grown {H : Nat} {W w w1 : World} (hb : Below H W w) (hz : H ≤ w.heap.size) {o : Obj} {g : Nat} (hg : (w.alloc o).grownBy w1 (some g)) (hgH : H ≤ g) : Below H W w1 :=
  (hb.alloc hz o).grown hg (by simp; omega) (fun k hk => by cases hk; exact hgH)

/-- A row that has grown by the bytes l. -/
theorem own_step {w1 : World} {B g n m cap : Nat} {acc l : List UInt8} {cs : List Value} (hn : acc.length = n) (hl : l.length = m) (hc : cs = Lib.byteCells l)
    (h : w1.ownsRow B 5 1 (.slice (some ⟨g, 0, none⟩) (n + m) cap) (n + m) (Lib.byteCells acc ++ cs)) :
    w1.ownsRow B 5 1 (.slice (some ⟨g, 0, none⟩) (acc ++ l).length cap) (acc ++ l).length (Lib.byteCells (acc ++ l)) := by
  rw [List.length_append, hn, hl, Lib.byteCells_append, ← hc]
  exact h

theorem len_step {n m g cap : Nat} {acc l : List UInt8} (hn : acc.length = n) (hl : l.length = m) : Value.slice (some ⟨g, 0, none⟩) (n + m) cap = .slice (some ⟨g, 0, none⟩) (acc ++ l).length cap := by
  rw [List.length_append, hn, hl]

theorem bytesOf_length (s : ByteArray) (i w : Nat) : (bytesOf s i w).length = w := by simp [bytesOf]

theorem cap_cells {b : Nat} (h : b ≤ 90) : [Value.int .u8 33, .int .u8 ((b : Int) + 32)] = Lib.byteCells [33, (b + 32).toUInt8] := by
  have e : ((b + 32).toUInt8).toNat = b + 32 := by simp; omega
  simp only [Lib.byteCells, List.map_cons, List.map_nil, e]
  rfl

theorem byte_cell (s : ByteArray) (k : Nat) (h : k < s.size) : [Value.int .u8 ((s[k]'h).toNat : Int)] = Lib.byteCells [s.get! k] := by
  have e : (s.get! k).toNat = (s[k]'h).toNat := bAt_eq s k h
  simp [Lib.byteCells, e]

set_option maxHeartbeats 1000000 in
set_option maxRecDepth 100000 in
theorem model_any (s : ByteArray) (w : World) (hs : s.size ≤ 16777216) :
    Calls Try.prog 14 #[.string s] w fun e w' => e = .returned (.string ⟨(esc s).toArray⟩) ∧ Below w.heap.size w w' := by
  obtain ⟨i0, hi, hz0, hz1, hz2⟩ := info_parts Try.info5
  have hmk := makeBytes (3 * s.size) (by omega)
  have e3 : ((3 * s.size : Nat) : Int) = 3 * (s.size : Int) := by omega
  rw [e3] at hmk
  clear e3
  go_enter Try.func14, Try.ntmps14
  go_wp2
  clear hmk
  go_loopw [3, 4] (fun out i wr => ∃ (pos fuel : Nat) (acc : List UInt8), pos ≤ s.size ∧ i = .int .i64 pos ∧ out = .slice (some ⟨w.heap.size, 0, none⟩) acc.length (3 * s.size) ∧
      wr.ownsRow w.heap.size 5 1 (.slice (some ⟨w.heap.size, 0, none⟩) acc.length (3 * s.size)) acc.length (Lib.byteCells acc) ∧ Below w.heap.size w wr ∧ acc ++ escFrom s fuel pos = esc s ∧ s.size ≤ pos + fuel ∧ acc.length ≤ 3 * pos)
    (fun _ i _ => s.size - (intOf i).toNat)
  case atStart => exact ⟨0, s.size, [], Nat.zero_le _, rfl, rfl, own_bytes w w.heap.size _ (by omega) (Nat.le_refl _), (Below.refl _ _).alloc (Nat.le_refl _) _, rfl, by omega, by simp⟩
  case round =>
    obtain ⟨pos, fuel, acc, hps, rfl, rfl, hown, hbw, hacc, hfu, hal⟩ := hrel
    have hz := hbw.size
    by_cases hp : pos < s.size
    case pos =>
      obtain ⟨f, rfl⟩ : ∃ f, fuel = f + 1 := ⟨fuel - 1, by omega⟩
      rw [escFrom_chunk hp] at hacc
      have Hacc : Hid (acc ++ (chunk s pos ++ escFrom s f (pos + stride s pos)) = esc s) := hacc
      clear hacc
      have hvl := vw_le s pos hp
      have hvw := vw_any s pos wr hp (by omega)
      generalize hv : vw s pos = v at hvw hvl
      have Hv : Hid (vw s pos = v) := hv
      clear hv
      generalize hn : acc.length = n at hown hal ⊢
      have Hn : Hid (acc.length = n) := hn
      clear hn
      by_cases hv0 : v = 0
      case pos =>
        subst hv0
        obtain ⟨hc1, hc2⟩ := chunk_bad Hv.out
        rw [hc1, hc2] at Hacc
        go_wp2_with (first
          | (go_at_call 25; refine hvw.mono ?_; rintro e w' ⟨rfl, rfl⟩)
          | (at_builtin; refine wpList_append_fits _ rfl (.tmp 21) (.tmp 22) 39 rfl w.heap.size 5 i0 1 Try.underlying39 hi hz1 w.heap.size n (3 * s.size) _ rfl (hown.alloc _) ⟨_, 0, none⟩ 3 3 [.int .u8 239, .int .u8 191, .int .u8 189] rfl rfl (news_bytes _ _) (u8_oneCell (by simp)) (by omega) ?_; intro w1 v0 g1))
        have B1 := below_grown hbw hz g1 (Nat.le_refl _)
        go_roundw
        case rel =>
          refine ⟨pos + 1, f, acc ++ [239, 191, 189], by omega, by go_num, len_step Hn.out rfl, own_step Hn.out rfl rfl v0, B1, ?_, by omega, ?_⟩
          · rw [List.append_assoc]; exact Hacc.out
          · rw [List.length_append, Hn.out]; simp; omega
        case measure => simp [intOf]; omega
      have hv1 : ((v : Int) == 0) = false := by simp; omega
      have hb := bAt_eq s pos hp
      have hbl : (s[pos]'hp).toNat < 256 := (s[pos]'hp).toNat_lt
      by_cases hcap : v = 1 ∧ 65 ≤ (s[pos]'hp).toNat ∧ (s[pos]'hp).toNat ≤ 90
      case pos =>
        obtain ⟨rfl, hc3, hc4⟩ := hcap
        obtain ⟨hc1, hc2⟩ := chunk_cap Hv.out (by rw [hb]; exact hc3) (by rw [hb]; exact hc4)
        rw [hb] at hc1
        rw [hc1, hc2] at Hacc
        clear hb hc1 hc2
        go_wp2_with (first
          | (go_at_call 25; refine hvw.mono ?_; rintro e w' ⟨rfl, rfl⟩)
          | (at_builtin; refine wpList_append_fits _ rfl (.tmp 39) (.tmp 42) 39 rfl w.heap.size 5 i0 1 Try.underlying39 hi hz1 w.heap.size n (3 * s.size) _ rfl (hown.alloc _) ⟨_, 0, none⟩ 2 2 [.int .u8 33, .int .u8 (((s[pos]'hp).toNat : Int) + 32)] rfl rfl (news_bytes _ _) (u8_oneCell (by simp)) (by omega) ?_; intro w1 v0 g1))
        have B1 := below_grown hbw hz g1 (Nat.le_refl _)
        go_roundw
        case rel =>
          refine ⟨pos + 1, f, acc ++ [33, ((s[pos]'hp).toNat + 32).toUInt8], by omega, by go_num, len_step Hn.out rfl, own_step Hn.out rfl (cap_cells hc4) v0, B1, ?_, by omega, ?_⟩
          · rw [List.append_assoc]; exact Hacc.out
          · rw [List.length_append, Hn.out]; simp; omega
        case measure => simp [intOf]; omega
      obtain ⟨hc1, hc2⟩ := chunk_copy (s := s) (i := pos) (by rw [Hv.out]; exact hv0) (by rw [Hv.out, hb]; exact hcap)
      rw [Hv.out] at hc1 hc2
      rw [hc1, hc2] at Hacc
      have hways : (((v : Int) == 1) = false) ∨ (((v : Int) == 1) = true ∧ (s[pos]'hp).toNat < 65) ∨ (((v : Int) == 1) = true ∧ 65 ≤ (s[pos]'hp).toNat ∧ 90 < (s[pos]'hp).toNat) := by
        by_cases h1 : v = 1
        · right
          have h1' : ((v : Int) == 1) = true := by simp [h1]
          by_cases h2 : (s[pos]'hp).toNat < 65
          · exact .inl ⟨h1', h2⟩
          · exact .inr ⟨h1', by omega, by omega⟩
        · left; simp; omega
      clear hb hc1 hc2 hcap
      rcases hways with hw1 | ⟨hw1, hw2⟩ | ⟨hw1, hw2, hw3⟩
      all_goals
        go_wp2_with (go_at_call 25; refine hvw.mono ?_; rintro e w' ⟨rfl, rfl⟩)
        clear hvw
        go_loopw [3, 7] (fun out kk wr2 => ∃ (k : Nat), k ≤ v ∧ kk = .int .i64 k ∧ out = .slice (some ⟨w.heap.size, 0, none⟩) (n + k) (3 * s.size) ∧
            wr2.ownsRow w.heap.size 5 1 (.slice (some ⟨w.heap.size, 0, none⟩) (n + k) (3 * s.size)) (n + k) (Lib.byteCells (acc ++ bytesOf s pos k)) ∧ Below w.heap.size w wr2)
          (fun _ kk _ => v - (intOf kk).toNat)
        case atStart => exact ⟨0, Nat.zero_le _, rfl, rfl, by simpa [bytesOf] using hown, hbw⟩
        case round =>
          obtain ⟨k, hk, rfl, rfl, hown2, hbw2⟩ := hrel
          have hz2 := hbw2.size
          by_cases hkv : k < v
          case pos =>
            have hpk : pos + k < s.size := by omega
            go_wp2_with (at_builtin; refine wpList_append_fits _ rfl (.tmp 49) (.tmp 55) 39 rfl w.heap.size 5 i0 1 Try.underlying39 hi hz1 w.heap.size (n + k) (3 * s.size) _ rfl (hown2.alloc _) ⟨_, 0, none⟩ 1 1 [.int .u8 (((s[pos + k]'hpk).toNat : Int))] rfl rfl (news_bytes _ _) (u8_oneCell (by simp)) (by omega) ?_; intro w1 v0 g1)
            have B1 := below_grown hbw2 hz2 g1 (Nat.le_refl _)
            rw [byte_cell s (pos + k) hpk, ← Lib.byteCells_append, List.append_assoc, ← bytesOf_succ] at v0
            go_roundw
            case rel => exact ⟨k + 1, by omega, by go_num, rfl, v0, B1⟩
            case measure => simp [intOf]; omega
          have hkv' : v = k := by omega
          subst hkv'
          go_wp2
          go_roundw
          case rel =>
            refine ⟨pos + v, f, acc ++ bytesOf s pos v, by omega, by go_num, len_step Hn.out (bytesOf_length _ _ _), ?_, hbw2, ?_, by omega, ?_⟩
            · rw [List.length_append, Hn.out, bytesOf_length]; exact hown2
            · rw [List.append_assoc]; exact Hacc.out
            · rw [List.length_append, Hn.out, bytesOf_length]; omega
          case measure => simp [intOf]; omega
    have hfin := hacc
    rw [escFrom_end s fuel pos hp, List.append_nil] at hfin
    have hcv := conv_own wr w.heap.size w.heap.size (3 * s.size) acc hown
    clear hacc
    have Hfin : Hid (acc = esc s) := hfin
    clear hfin
    go_wp2
    go_ret
    exact ⟨by rw [← Hfin.out]; rfl, hbw⟩

set_option maxHeartbeats 400000 in
theorem zzbytes13_any (s : ByteArray) (w : World) (hs : s.size ≤ maxLen) : Calls Try.prog 13 #[.string s] w fun e w' => (e = .returned (.bool false) ∨ (e = .returned (.bool true) ∧ s.size ≤ 1048576)) ∧ w' = w := by
  unfold maxLen at hs
  by_cases h : s.size ≤ 1048576
  · go_enter Try.func13, Try.ntmps13
    go_wp2
    go_ret
    exact ⟨.inr ⟨rfl, h⟩, rfl⟩
  · go_enter Try.func13, Try.ntmps13
    go_wp2
    go_ret
    exact ⟨.inl rfl, rfl⟩

set_option maxHeartbeats 400000 in
theorem law5 (s : ByteArray) (hs : s.size ≤ maxLen) (w : World) :
    Calls Try.prog 5 #[.string s] w fun e w' => e = .returned (.bool true) ∧ Below w.heap.size w w' := by
  go_enter Try.func5, Try.ntmps5
  go_wp2_with fail
  refine (zzbytes13_any s w hs).mono ?_
  rintro e W ⟨rfl | ⟨rfl, hsz⟩, rfl⟩
  · go_wp2_with fail
    go_ret
    exact ⟨rfl, Below.refl _ _⟩
  · go_wp2_with fail
    refine (model_any s _ (by omega)).mono ?_
    rintro e W1 ⟨rfl, b1⟩
    go_wp2_with fail
    refine (zzescape_any s _ (by omega)).mono ?_
    rintro e W2 ⟨rfl, _, b2⟩
    go_wp2_with fail
    go_ret
    exact ⟨by simp, b1.trans (b2.mono b1.size)⟩

end Go.Proofs.Qxb6603385a
