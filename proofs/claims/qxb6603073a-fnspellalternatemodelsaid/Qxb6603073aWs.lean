import Derived.Test.Qxb6603073aWd
import Derived.Sort.OwnSorted
namespace Go.Proofs.Qxb6603073a
open Go.RowKit Go.Sort

abbrev sorted (E : List Byts) : List Byts := E.mergeSort fun x y => decide (x ≤ y)

theorem sort_any (v : Value) (B : Nat) (E : List Byts) (w : World) (h : w.ownsRow B 9 1 v E.length (rowS E)) (hsz : E.length < 4611686018427387904) :
    Calls Try.prog 21 #[v] w fun e w' => e = .returned (.tuple #[]) ∧ w'.ownsRow B 9 1 v E.length (rowS (sorted E)) ∧ w.grownBy w' v.ownBlock := by
  rcases h.2 with ⟨rfl, h0⟩ | ⟨g, cap, cur, rfl, hB, hg, h1, h2, h3, h4⟩
  · have : E = [] := List.length_eq_zero_iff.1 h0
    subst this
    refine (Try.slices_Sort_string_none none 0 w).mono ?_
    rintro e w' ⟨rfl, rfl⟩
    exact ⟨rfl, by simpa [sorted, rowS] using World.ownsRow_nil _ _ _ _, grow_refl _ _⟩
  · have hlt : g < w.heap.size := (Array.getElem?_eq_some_iff.1 hg).1
    refine (Try.slices_Sort_string g 0 cap E w (holds_of_block hg (by rw [Nat.mul_one] at h4; exact h4)) hlt hsz).mono ?_
    rintro e w' ⟨rfl, n, os, rfl⟩
    exact ⟨rfl, ownsRow_sorted (by simp) hB hg h1 h2 h3, grownBy_sorted _⟩

theorem compact_any (v : Value) (B : Nat) (L : List Byts) (w : World) (h : w.ownsRow B 9 1 v L.length (rowS L)) :
    Calls Try.prog 22 #[v] w fun e w' => ∃ v', e = .returned v' ∧ w'.ownsRow B 9 1 v' (Lib.compact L).length (rowS (Lib.compact L)) ∧ w.grownBy w' v.ownBlock ∧ v'.ownBlock = v.ownBlock ∧ (v = .slice none 0 0 → v' = .slice none 0 0) := by
  rcases h.2 with ⟨rfl, h0⟩ | ⟨g, cap, cur, rfl, hB, hg, h1, h2, h3, h4⟩
  · have : L = [] := List.length_eq_zero_iff.1 h0
    subst this
    refine (Try.slices_Compact_string_empty none 0 w).mono ?_
    rintro e w' ⟨rfl, rfl⟩
    exact ⟨_, rfl, World.ownsRow_nil _ _ _ _, grow_refl _ _, rfl, fun h => h⟩
  · have hle := Lib.compact_length_le L
    unfold maxLen at h2
    refine (Try.slices_Compact_string g 0 cap L w (holds_of_block hg (by rw [Nat.mul_one] at h4; exact h4)) (by omega) h1).mono ?_
    rintro e w' ⟨rfl, q, rfl⟩
    generalize hd : (Lib.compact L ++ List.replicate (L.length - (Lib.compact L).length) []) = D
    have hDl : D.length = L.length := by rw [← hd]; simp; omega
    have hgr := grow_empty (putRow encStr (Sort.ahead w q) g 0 D.toArray)
    have hb := heap_sorted (w := w) (g := g) (n := q) (os := #[]) (cur := cur) (e := 9) (fr := (0, 0)) D.toArray hg
    have hb2 := grownBy_sorted (w := w) (g := g) (n := q) (os := #[]) D.toArray
    rw [hgr] at hb hb2
    refine ⟨_, rfl, ⟨by simp [rowS], .inr ⟨g, cap, _, rfl, hB, hb, by omega, by unfold maxLen; omega, by simp [putCells, h3], ?_⟩⟩, hb2, rfl, fun h => by simp at h⟩
    have ht := take_putCells cur D (by omega)
    have : (putCells encStr 0 D.toArray cur).toList.take ((Lib.compact L).length * 1) = ((putCells encStr 0 D.toArray cur).toList.take D.length).take (Lib.compact L).length := by
      rw [List.take_take, Nat.mul_one, Nat.min_eq_left (by omega)]
    rw [this, ht, ← hd]
    simp [rowS]

end Go.Proofs.Qxb6603073a
