import Derived.Test.Qxb6603073aWd
import Derived.Test.Qxb6603073aWz
import Derived.Laws.CopyOwn
import Derived.Deep.RegionHeldLaw
namespace Go.Proofs.Qxb6603073a
open Go.RowKit

/-- What cloneStrs leaves. -/
structure CP (w w' : World) (a a' : Option Addr) (c' n : Nat) (ss : List Byts) : Prop where
  nil : a'.isNone = a.isNone
  zero : a' = none → n = 0 ∧ c' = 0
  at' : StrsAt w' a' n ss
  far : ∀ x, a' = some x → w.heap.size ≤ x.block
  bel : Below w.heap.size w w'

theorem make26 (w : World) (n : Nat) (h : n ≤ 1048576) : ∃ Z : List Value, Z.length = n ∧
    Sem.run Try.prog (Instr.makeSlice 26 (.int .i64 n) (.int .i64 n)) w = .ok (.slice (some ⟨w.heap.size, 0, none⟩) n n) (w.alloc (.cells Z.toArray 9)) := by
  obtain ⟨i0, hi, hz0, hz1, hz2⟩ := info_parts Try.info9
  refine ⟨List.replicate n (.string ByteArray.empty), by simp, ?_⟩
  rw [run_make w 26 9 i0 (.string ByteArray.empty) Try.underlying26 hi hz0 .i64 .i64 n n (by omega) (by omega) (by rw [hz2]; omega) (by omega), hz1]
  simp only [Value.cells, Int.toNat_natCast, Nat.mul_one]
  congr 3
  apply Array.ext'
  rw [toList_madeCells_one]

theorem strs_of_heap {w : World} {g n : Nat} {ss : List Byts} (hl : ss.length = n) (h : w.heap[g]? = some (.cells (rowS ss).toArray 9 (0, 0))) : StrsAt w (some ⟨g, 0, none⟩) n ss := by
  refine ⟨hl, fun i hi => ⟨g, 0, rfl, (Array.getElem?_eq_some_iff.1 h).1, ?_⟩⟩
  rw [cell_of_row w _ _ _ _ _ h, Nat.zero_add, List.getElem?_toArray, rowS_at (by omega)]

theorem size9 : (Try.prog.info? 9).map (·.size) = some 1 := by
  obtain ⟨i0, hi, hz0, hz1, hz2⟩ := info_parts Try.info9
  rw [hi]; simp [hz1]

theorem clone_len {w : World} {ad : Addr} {n : Nat} {ss : List Byts} (hs : StrsAt w (some ad) n ss) : (rowS ss).length = Nat.min n n := by simp [rowS, hs.1]

theorem clone_fit {w : World} {ad : Addr} {n : Nat} {ss : List Byts} {Z : List Value} (hs : StrsAt w (some ad) n ss) (hZ : Z.length = n) : 0 + (rowS ss).length ≤ Z.length := by simp [rowS, hs.1, hZ]

theorem clone_one (ss : List Byts) : ∀ v ∈ rowS ss, v.oneCell' = true := by
  intro u hu
  simp only [rowS, List.mem_map] at hu
  obtain ⟨l, _, rfl⟩ := hu
  rfl

theorem clone_news {w : World} {ad : Addr} {n : Nat} {ss : List Byts} {o : Obj} (hs : StrsAt w (some ad) n ss) :
    0 < (rowS ss).length → some (⟨w.heap.size, 0, none⟩ : Addr) = some ⟨w.heap.size, 0, none⟩ ∧ ∃ ad', some ad = some ad' ∧ ∀ j v, (rowS ss)[j]? = some v → (w.alloc o).cell? (ad'.add j) = some v :=
  fun _ => ⟨rfl, ad, rfl, fun j u hu => by
    have hs1 := hs.later ((Below.refl _ _).alloc (Nat.le_refl _) o)
    have hlen := hs.1
    have hj : j < ss.length := by
      rcases Nat.lt_or_ge j ss.length with h' | h'
      · exact h'
      · rw [List.getElem?_eq_none (by simpa [rowS] using h')] at hu; cases hu
    rw [rowS_at hj] at hu
    obtain ⟨b, off, he, _, hc⟩ := hs1.2 j (by omega)
    obtain rfl : ad = ⟨b, off, none⟩ := by simpa using he
    rw [Addr.add_lit, hc]; exact hu⟩

theorem copy26 {w : World} {ad : Addr} {n c : Nat} {ss : List Byts} {Z : List Value} (hs : StrsAt w (some ad) n ss) (hZ : Z.length = n) : ∃ w',
    Sem.run Try.prog (Builtin.copy_ #[26, 26] 3 #[.slice (some ⟨w.heap.size, 0, none⟩) n n, .slice (some ad) n c]) (w.alloc (.cells Z.toArray 9)) = .ok (.int .i64 n) w' ∧
    w'.heap[w.heap.size]? = some (.cells (rowS ss).toArray 9 (0, 0)) ∧ Below w.heap.size w w' := by
  have hlen := hs.1
  have hbel := (Below.refl w.heap.size w).alloc (Nat.le_refl _) (.cells Z.toArray 9)
  by_cases h0 : n = 0
  · subst h0
    obtain rfl : ss = [] := List.length_eq_zero_iff.1 hlen
    obtain rfl : Z = [] := List.length_eq_zero_iff.1 hZ
    exact ⟨_, run_copy_none _ 26 26 3 9 _ _ _ _ _ _ Try.underlying26 size9 (by simp), heap_alloc_new _ _, hbel⟩
  · obtain ⟨_, ad', he, hnews⟩ := clone_news (o := .cells Z.toArray 9) hs (by simp [rowS]; omega)
    obtain rfl : ad = ad' := by simpa using he
    have hr := run_copy_row (P := Try.prog) (w.alloc (.cells Z.toArray 9)) 26 26 3 9 w.heap.size 0 n n ad n c Z.toArray 9 (rowS ss) Try.underlying26 size9 (heap_alloc_new _ _) (clone_len hs) hnews (by simpa using clone_fit hs hZ) (clone_one ss)
    have hrow : (List.take 0 Z.toArray.toList ++ rowS ss ++ List.drop (0 + (rowS ss).length) Z.toArray.toList) = rowS ss := by
      have : Z.drop (rowS ss).length = [] := by simp [rowS, hlen, hZ]
      simp [this]
    rw [hrow, show (rowS ss).length = n by simp [rowS, hlen]] at hr
    exact ⟨(w.alloc (.cells Z.toArray 9)).setRow w.heap.size (rowS ss).toArray, hr, setRow_heap _ _ _ _ 9 _ (heap_alloc_new _ _), below_setRow hbel (Nat.le_refl _) _⟩

set_option maxHeartbeats 400000 in
theorem clonestrs_any (a : Option Addr) (n c : Nat) (ss : List Byts) (w : World) (hn : n ≤ 1048576) (hs : StrsAt w a n ss) :
    Calls Try.prog 14 #[.slice a n c] w fun e w' => ∃ a' c', e = .returned (.slice a' n c') ∧ CP w w' a a' c' n ss := by
  have e1 : ∀ W, (binOp .eql 26 (.slice a n c) (.slice none 0 0)).run Try.prog W = .ok (.bool a.isNone) W := fun W => Lib.run_eql_slice_nil W _ _ a n c 0 0 Try.underlying26
  cases a with
  | none =>
    have h0 : n = 0 := by
      rcases Nat.eq_zero_or_pos n with h | h
      · exact h
      · obtain ⟨b, off, he, _⟩ := hs.2 0 h; cases he
    subst h0
    go_enter Try.func14, Try.ntmps14
    go_wp2
    go_ret
    exact ⟨none, 0, rfl, rfl, fun _ => ⟨rfl, rfl⟩, hs, (fun x hx => by cases hx), Below.refl _ _⟩
  | some ad =>
    obtain ⟨Z, hZ, hmk⟩ := make26 w n hn
    obtain ⟨w', hcp, hh, hb⟩ := copy26 (c := c) hs hZ
    have Hr : Hid (CP w w' (some ad) (some ⟨w.heap.size, 0, none⟩) n n ss) := ⟨rfl, fun h => by simp at h, strs_of_heap hs.1 hh, fun x hx => by
      have : (⟨w.heap.size, 0, none⟩ : Addr) = x := by simpa using hx
      rw [← this]; exact Nat.le_refl _, hb⟩
    clear hs hh hb
    go_enter Try.func14, Try.ntmps14
    go_wp2
    go_ret
    exact ⟨_, _, rfl, hout Hr⟩

end Go.Proofs.Qxb6603073a
