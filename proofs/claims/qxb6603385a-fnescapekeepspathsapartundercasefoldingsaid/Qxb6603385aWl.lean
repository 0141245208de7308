import Derived.Test.Qxb6603385aWk
import Derived.Lib.DecodeN
namespace Go.Proofs.Qxb6603385a
open Go.RowKit

/-- What 'escape' writes for a rune. -/
def escRune (r : Nat) : List UInt8 := if 65 ≤ r ∧ r ≤ 90 then 33 :: Lib.encodeRune ((r : Int) + 32) else Lib.encodeRune (r : Int)

/-- What 'escape' gives, from place pos on, by at most 'fuel' runes. -/
def escFrom (s : ByteArray) : Nat → Nat → List UInt8
  | 0, _ => []
  | fuel + 1, pos => if pos < s.size then escRune (Utf8.decode s pos).1 ++ escFrom s fuel (pos + (Utf8.decode s pos).2) else []
def esc (s : ByteArray) : List UInt8 := escFrom s s.size 0

theorem width_pos (s : ByteArray) (pos : Nat) (h : pos < s.size) : 1 ≤ (Utf8.decode s pos).2 := by
  by_cases ha : (s[pos]'h).toNat < 128
  · rw [decode_ascii s pos h ha]
    exact Nat.le_refl _
  · exact (decode_high s pos h (by omega)).2

theorem escFrom_end (s : ByteArray) (fuel pos : Nat) (h : ¬ pos < s.size) : escFrom s fuel pos = [] := by
  cases fuel with
  | zero => rfl
  | succ f => simp [escFrom, h]

theorem decodeN_width (n b0 b1 b2 b3 : Nat) (hn : 1 ≤ n) : (Lib.decodeN n b0 b1 b2 b3).2 ≤ n := by
  unfold Lib.decodeN
  repeat' split
  all_goals (simp only; omega)

theorem width_le (s : ByteArray) (pos : Nat) (h : pos < s.size) : pos + (Utf8.decode s pos).2 ≤ s.size := by
  rw [Lib.decode_at]
  have := decodeN_width (s.size - pos) (s.get! pos).toNat (s.get! (pos + 1)).toNat (s.get! (pos + 2)).toNat (s.get! (pos + 3)).toNat (by omega)
  omega

theorem escRune_cap {r : Nat} (h : 65 ≤ r ∧ r ≤ 90) : escRune r = [33] ++ Lib.encodeRune ((r : Int) + 32) := by simp [escRune, h]
theorem escRune_not {r : Nat} (h : ¬ (65 ≤ r ∧ r ≤ 90)) : escRune r = Lib.encodeRune (r : Int) := by simp only [escRune, if_neg h]

theorem escFrom_step {s : ByteArray} {pos : Nat} (hp : pos < s.size) (f : Nat) : escFrom s (f + 1) pos = escRune (Utf8.decode s pos).1 ++ escFrom s f (pos + (Utf8.decode s pos).2) := by simp [escFrom, hp]

theorem capital_len {r : Int} (h0 : 0 ≤ r) (h1 : r ≤ 127) : (Lib.encodeRune r).length = 1 := by simp [Lib.encodeRune, Lib.encodeRuneZ_one h0 h1]

set_option maxHeartbeats 1000000 in
set_option maxRecDepth 100000 in
theorem escape_any (s : ByteArray) (w : World) (hs : s.size ≤ 16777216) :
    Calls Try.prog 26 #[.string s] w fun e w' => e = .returned (.string ⟨(esc s).toArray⟩) ∧ (esc s).length ≤ 4 * s.size ∧ Below w.heap.size w w' := by
  go_enter Try.func26, Try.ntmps26
  go_wp2
  go_loopw [] (fun wr => ∃ (pos fuel : Nat) (acc : List UInt8), Lib.IsBuilderF 44 5 w.heap.size w.heap.size (Lib.byteCells acc) wr ∧ wr.heap[w.heap.size + 1]? = some (.stringIter s pos) ∧ Below w.heap.size w wr ∧ acc ++ escFrom s fuel pos = esc s ∧ s.size ≤ pos + fuel ∧ acc.length ≤ 4 * pos ∧ pos ≤ s.size) (fun wr => s.size - wr.iterPos (w.heap.size + 1))
  case atStart =>
    refine ⟨0, s.size, [], (Lib.IsBuilderF.of (Lib.fresh_isBuilder 44 5 w)).alloc _, ?_, ((Below.refl _ w).alloc (Nat.le_refl _) _).alloc (by simp) _, rfl, by omega, by simp, by omega⟩
    have := World.iter_heap (w.alloc (.cells #[.pointer none, .slice none 0 0] 44)) s 0
    simpa using this
  case round =>
    obtain ⟨pos, fuel, acc, hI, hit, hbw, hacc, hfu, hal, hps⟩ := hrel
    have hsz : w.heap.size + 1 < wr.heap.size := (Array.getElem?_eq_some_iff.1 hit).1
    by_cases hp : pos < s.size
    · have hnx : ∀ ty, (Instr.next (.pointer (some ⟨w.heap.size + 1, 0, none⟩)) true ty).run Try.prog wr = _ := fun ty => Lib.run_next_any_at wr (w.heap.size + 1) s pos ty hit hp
      have hwd := width_pos s pos hp
      have hwl := width_le s pos hp
      have hd1 := decode_le s pos
      have hI2 := hI.iterAt hit (pos + (Utf8.decode s pos).2)
      have hit2 := Lib.iterAt_heap wr (w.heap.size + 1) s pos (pos + (Utf8.decode s pos).2) hit
      have hbw2 := Lib.below_iterAt hbw (k := w.heap.size + 1) (by omega) s (pos + (Utf8.decode s pos).2)
      have hsz2 : w.heap.size ≤ (wr.iterAt (w.heap.size + 1) s (pos + (Utf8.decode s pos).2)).heap.size := by rw [Lib.iterAt_size]; omega
      obtain ⟨f, rfl⟩ : ∃ f, fuel = f + 1 := ⟨fuel - 1, by omega⟩
      have Hacc : Hid (acc ++ (escRune (Utf8.decode s pos).1 ++ escFrom s f (pos + (Utf8.decode s pos).2)) = esc s) := by rw [← escFrom_step hp]; exact hacc
      clear hacc
      by_cases hcap : 65 ≤ (Utf8.decode s pos).1 ∧ (Utf8.decode s pos).1 ≤ 90
      · obtain ⟨hc1, hc2⟩ := hcap
        go_wp2_with (go_at_call 28; refine (writeByte_any w.heap.size w.heap.size _ 33 _ hI2 (by rw [Lib.byteCells_length]; omega) hsz2).mono ?_)
        rintro e W1 ⟨rfl, h1, b1, k1⟩
        have hit3 := k1.iter hit2 (by omega)
        have hsz3 : w.heap.size ≤ W1.heap.size := by have := b1.size; omega
        go_wp2_with (go_at_call 29; refine (writeRune_any w.heap.size w.heap.size _ _ (by omega) (by omega) _ (Or.inr h1) (by simp [Lib.byteCells_length]; omega) hsz3).mono ?_)
        rintro e W2 ⟨rfl, h2, b2, k2⟩
        have hit4 := k2.iter hit3 (by have := (Array.getElem?_eq_some_iff.1 hit3).1; omega)
        go_wp2
        go_roundw
        case rel =>
          refine ⟨pos + (Utf8.decode s pos).2, f, acc ++ ([33] ++ Lib.encodeRune (((Utf8.decode s pos).1 : Int) + 32)), ?_, hit4, (hbw2.trans b1).trans b2, ?_, by omega, ?_, hwl⟩
          · rw [← List.append_assoc, Lib.byteCells_append, Lib.byteCells_append, Lib.byteCells_encodeRune]; exact Or.inr h2
          · rw [List.append_assoc, ← escRune_cap ⟨hc1, hc2⟩]; exact Hacc.out
          · rw [List.length_append, List.length_append, capital_len (by omega) (by omega)]; simp; omega
        case measure =>
          simp only [World.iterPos, hit4, hit]
          omega
      · have hcc : (Utf8.decode s pos).1 < 65 ∨ 90 < (Utf8.decode s pos).1 := by omega
        have HC : Hid (¬ (65 ≤ (Utf8.decode s pos).1 ∧ (Utf8.decode s pos).1 ≤ 90)) := hcap
        clear hcap
        rcases hcc with hcc | hcc
        · go_wp2_with (go_at_call 29; refine (writeRune_any w.heap.size w.heap.size _ _ (by omega) (by omega) _ hI2 (by rw [Lib.byteCells_length]; omega) hsz2).mono ?_)
          first | (rintro e W1 rfl h1 b1 k1) | (rintro e W1 ⟨rfl, h1, b1, k1⟩)
          have hit3 := k1.iter hit2 (by omega)
          go_wp2
          go_roundw
          case rel =>
            have hl4 := Lib.runeCells_le ((Utf8.decode s pos).1 : Int)
            rw [Lib.runeCells_length] at hl4
            refine ⟨pos + (Utf8.decode s pos).2, f, acc ++ Lib.encodeRune (Utf8.decode s pos).1, ?_, hit3, hbw2.trans b1, ?_, by omega, by simp; omega, hwl⟩
            · rw [Lib.byteCells_append, Lib.byteCells_encodeRune]; exact Or.inr h1
            · rw [List.append_assoc, ← escRune_not HC.out]; exact Hacc.out
          case measure =>
            simp only [World.iterPos, hit3, hit]
            omega
        · go_wp2_with (go_at_call 29; refine (writeRune_any w.heap.size w.heap.size _ _ (by omega) (by omega) _ hI2 (by rw [Lib.byteCells_length]; omega) hsz2).mono ?_)
          first | (rintro e W1 rfl h1 b1 k1) | (rintro e W1 ⟨rfl, h1, b1, k1⟩)
          have hit3 := k1.iter hit2 (by omega)
          go_wp2
          go_roundw
          case rel =>
            have hl4 := Lib.runeCells_le ((Utf8.decode s pos).1 : Int)
            rw [Lib.runeCells_length] at hl4
            refine ⟨pos + (Utf8.decode s pos).2, f, acc ++ Lib.encodeRune (Utf8.decode s pos).1, ?_, hit3, hbw2.trans b1, ?_, by omega, by simp; omega, hwl⟩
            · rw [Lib.byteCells_append, Lib.byteCells_encodeRune]; exact Or.inr h1
            · rw [List.append_assoc, ← escRune_not HC.out]; exact Hacc.out
          case measure =>
            simp only [World.iterPos, hit3, hit]
            omega
    · have hnx : ∀ ty, (Instr.next (.pointer (some ⟨w.heap.size + 1, 0, none⟩)) true ty).run Try.prog wr = _ := fun ty => Lib.run_next_end_at wr (w.heap.size + 1) s pos ty hit hp
      go_wp2_with (go_at_call 30; refine (Try.builderString w.heap.size w.heap.size acc _ hI (by omega)).mono ?_)
      rintro e W1 ⟨rfl, _, b1, _⟩
      go_wp2
      go_ret
      rw [escFrom_end s fuel pos hp, List.append_nil] at hacc
      subst hacc
      exact ⟨rfl, by omega, hbw.trans b1⟩

set_option maxHeartbeats 400000 in
theorem zzescape_any (s : ByteArray) (w : World) (hs : s.size ≤ 16777216) :
    Calls Try.prog 15 #[.string s] w fun e w' => e = .returned (.string ⟨(esc s).toArray⟩) ∧ (esc s).length ≤ 4 * s.size ∧ Below w.heap.size w w' := by
  go_enter Try.func15, Try.ntmps15
  go_wp2_with (go_at_call 26; refine (escape_any s _ hs).mono ?_)
  rintro e W1 ⟨rfl, hl, b1⟩
  go_wp2
  go_ret
  exact ⟨rfl, hl, b1⟩

end Go.Proofs.Qxb6603385a
