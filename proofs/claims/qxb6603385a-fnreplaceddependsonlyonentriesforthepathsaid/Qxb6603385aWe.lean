import Derived.Test.Qxb6603385aWd
import Derived.Deep.RegionHeldLaw
import Derived.Deep.AppendLies
namespace Go.Proofs.Qxb6603385a
open Go.RowKit

theorem Try.info37 : (Try.prog.info? 37).map (fun i => (i.zero, i.size, i.bytes)) = some (some (.agg #[.string ByteArray.empty, .string ByteArray.empty, .string ByteArray.empty, .string ByteArray.empty]), 4, 64) := by kernel_rfl

/-- The entries' cells, one behind the other. -/
def entVals (es : List Ent) : List Value := es.flatMap fun e => [.string e.op, .string e.ov, .string e.np, .string e.nv]

/-- The table out of its four columns. -/
def table (s0 s1 s2 s3 : List ByteArray) (n : Nat) : List Ent :=
  (List.range n).map fun i => ⟨s0.getD i ByteArray.empty, s1.getD i ByteArray.empty, s2.getD i ByteArray.empty, s3.getD i ByteArray.empty⟩

theorem table_length (s0 s1 s2 s3 : List ByteArray) (n : Nat) : (table s0 s1 s2 s3 n).length = n := by simp [table]

theorem table_step {s0 s1 s2 s3 : List ByteArray} {n k : Nat} (hk : k < n) {x0 x1 x2 x3 : ByteArray} (h0 : s0.getD k ByteArray.empty = x0) (h1 : s1.getD k ByteArray.empty = x1) (h2 : s2.getD k ByteArray.empty = x2) (h3 : s3.getD k ByteArray.empty = x3) :
    (table s0 s1 s2 s3 n).take (k + 1) = (table s0 s1 s2 s3 n).take k ++ [⟨x0, x1, x2, x3⟩] := by
  rw [List.take_succ_eq_append_getElem (by rw [table_length]; exact hk)]
  simp only [table, List.getElem_map, List.getElem_range, h0, h1, h2, h3]

section
variable {P : Program} {ops : Array Oper} {Q : Exit → Act → World → Prop} {md : Region.Mode} {S : World → Prop}

/-- 'wpAnyH_take', the slot that is written given as a number. -/
theorem take_at (i d : Nat) {oi : Oper} {v : Value} {fuel : Nat} {listed : Array Bool} {a : Act} {w : World} (hi : ops[i]? = some oi) (hd : oi.dst = some d)
    (hs : Region.noSelect ops = true) (hf : Region.free md ops listed i = true) (hr : (Region.ready md ops listed).contains i = true)
    (hQ : ∀ c a w, Q (.panic c) (a.put oi.dst v) w → Q (.panic c) a w) (hy : YieldsIf P ops S oi v a) (hS : S w)
    (h : wpAnyH P md ops Q S fuel (listed.setIfInBounds i true) (a.put (some d) v) w) : wpAnyH P md ops Q S (fuel + 1) listed a w :=
  wpAnyH_take hi hs hf hr hQ hy hS (by rw [hd]; exact h)
end

theorem row_far {w : World} {base : Nat} {e : TypeId} {size : Nat} {v : Value} {n : Nat} {xs : List Value} (h : w.ownsRow base e size v n xs) {b : Nat} (hb : b < base) : some b ≠ v.ownBlock := by
  rcases h.2 with ⟨rfl, _⟩ | ⟨g, cap, cur, rfl, hg, _⟩
  · simp [Value.ownBlock]
  · simp [Value.ownBlock]; omega

theorem rel_step {w w1 : World} {T T' : List Ent} {k : Nat} {x0 x1 x2 x3 : ByteArray} (hT : T' = T ++ [⟨x0, x1, x2, x3⟩]) {sl : Value} {g cap : Nat} (hbox : w1.heap[w.heap.size]? = some (.cells #[.slice none 0 0, sl] 34 (0, 0)))
    (hown : w1.ownsRow (w.heap.size + 1) 37 4 (.slice (some ⟨g, 0, none⟩) (k + 1) cap) (k + 1) (entVals T ++ [.string x0, .string x1, .string x2, .string x3])) (hb : Below w.heap.size w w1) :
    (w1.setCell ⟨w.heap.size, 1, none⟩ (.slice (some ⟨g, 0, none⟩) (k + 1) cap)).heap[w.heap.size]? = some (.cells #[.slice none 0 0, .slice (some ⟨g, 0, none⟩) (k + 1) cap] 34 (0, 0)) ∧
    (w1.setCell ⟨w.heap.size, 1, none⟩ (.slice (some ⟨g, 0, none⟩) (k + 1) cap)).ownsRow (w.heap.size + 1) 37 4 (.slice (some ⟨g, 0, none⟩) (k + 1) cap) (k + 1) (entVals T') ∧
    Below w.heap.size w (w1.setCell ⟨w.heap.size, 1, none⟩ (.slice (some ⟨g, 0, none⟩) (k + 1) cap)) := by
  refine ⟨?_, ?_, hb.setCell (Nat.le_refl _) _⟩
  · show (w1.heap.modify w.heap.size _)[w.heap.size]? = _
    rw [Array.getElem?_modify, if_pos rfl, hbox]
    rfl
  · subst hT
    have : entVals (T ++ [⟨x0, x1, x2, x3⟩]) = entVals T ++ [.string x0, .string x1, .string x2, .string x3] := by simp [entVals]
    rw [this]
    exact ownsRow_setCell_below hown (by show w.heap.size < w.heap.size + 1; omega) _

theorem entVals_at : ∀ (T : List Ent) (i : Nat), i < T.length → (entVals T)[i * 4]? = some (.string (T.getD i noEnt).op) ∧ (entVals T)[i * 4 + 1]? = some (.string (T.getD i noEnt).ov) ∧
    (entVals T)[i * 4 + 2]? = some (.string (T.getD i noEnt).np) ∧ (entVals T)[i * 4 + 3]? = some (.string (T.getD i noEnt).nv)
  | [], i, h => by simp at h
  | e :: T, 0, _ => by simp [entVals]
  | e :: T, i + 1, h => by
    have hr := entVals_at T i (by simpa using h)
    have hc : entVals (e :: T) = .string e.op :: .string e.ov :: .string e.np :: .string e.nv :: entVals T := by simp [entVals]
    rw [hc, show (i + 1) * 4 = i * 4 + 1 + 1 + 1 + 1 by omega]
    simpa using hr

theorem entVals_length (T : List Ent) : (entVals T).length = T.length * 4 := by
  induction T with
  | nil => rfl
  | cons e T ih =>
    have hc : entVals (e :: T) = .string e.op :: .string e.ov :: .string e.np :: .string e.nv :: entVals T := by simp [entVals]
    rw [hc]; simp [ih]; omega

theorem ents_of_own {wr : World} {base : Nat} {sl : Value} {n : Nat} {T : List Ent} (hT : T.length = n) (h : wr.ownsRow base 37 4 sl n (entVals T)) : ∃ ao cap, sl = .slice ao n cap ∧ EntsAt wr ao n T := by
  rcases h.2 with ⟨rfl, rfl⟩ | ⟨g, cap, cur, rfl, hg, hh, _⟩
  · exact ⟨none, 0, rfl, hT, by omega⟩
  · refine ⟨_, _, rfl, hT, fun i hi => ⟨g, rfl, lt_of_block hh, ?_⟩⟩
    have e := entVals_at T i (by omega)
    refine ⟨?_, ?_, ?_, ?_⟩
    · rw [h.cellAt _ (by omega), e.1]
    · rw [h.cellAt _ (by omega), e.2.1]
    · rw [h.cellAt _ (by omega), e.2.2.1]
    · rw [h.cellAt _ (by omega), e.2.2.2]

set_option linter.unusedSimpArgs false in
set_option maxHeartbeats 1000000 in
theorem zzreplaced_any (a0 a1 a2 a3 : Option Addr) (n c0 c1 c2 c3 : Nat) (s0 s1 s2 s3 : List ByteArray) (p v : ByteArray) (w : World) (hn : n ≤ 65536)
    (r0 : StrsAt w a0 n s0) (r1 : StrsAt w a1 n s1) (r2 : StrsAt w a2 n s2) (r3 : StrsAt w a3 n s3) :
    Calls Try.prog 11 #[.slice a0 n c0, .slice a1 n c1, .slice a2 n c2, .slice a3 n c3, .string p, .string v] w fun e w' =>
      e = .returned (.tuple #[.string (repl (table s0 s1 s2 s3 n) p v).1, .string (repl (table s0 s1 s2 s3 n) p v).2]) ∧ Below w.heap.size w w' := by
  go_enter Try.func11, Try.ntmps11
  go_wp2
  go_loopw [16] (fun i wr => ∃ (k : Nat) (sl : Value), k ≤ n ∧ i = .int .i64 k ∧ wr.heap[w.heap.size]? = some (.cells #[.slice none 0 0, sl] 34 (0, 0)) ∧
      wr.ownsRow (w.heap.size + 1) 37 4 sl k (entVals ((table s0 s1 s2 s3 n).take k)) ∧ Below w.heap.size w wr) (fun i _ => n - (intOf i).toNat)
  case atStart => exact ⟨0, .slice none 0 0, Nat.zero_le _, rfl, heap_alloc_new _ _, by simpa [entVals] using World.ownsRow_nil _ _ _ _, (Below.refl _ _).alloc (Nat.le_refl _) _⟩
  case round =>
    obtain ⟨k, sl, hk, rfl, hbox, hown, hb⟩ := hrel
    by_cases hlt : k < n
    case pos =>
      obtain ⟨b0, o0, rfl, hb0, hc0⟩ := r0.2 k hlt
      obtain ⟨b1, o1, rfl, hb1, hc1⟩ := r1.2 k hlt
      obtain ⟨b2, o2, rfl, hb2, hc2⟩ := r2.2 k hlt
      obtain ⟨b3, o3, rfl, hb3, hc3⟩ := r3.2 k hlt
      obtain ⟨i0, hi, hz0, hz1, hz2⟩ := info_parts Try.info37
      generalize hg0 : s0.getD k ByteArray.empty = x0 at hc0
      generalize hg1 : s1.getD k ByteArray.empty = x1 at hc1
      generalize hg2 : s2.getD k ByteArray.empty = x2 at hc2
      generalize hg3 : s3.getD k ByteArray.empty = x3 at hc3
      have Hg : Hid ((table s0 s1 s2 s3 n).take (k + 1) = (table s0 s1 s2 s3 n).take k ++ [⟨x0, x1, x2, x3⟩]) := table_step hlt hg0 hg1 hg2 hg3
      clear r0 r1 r2 r3 hg0 hg1 hg2 hg3
      have e0 := (hb.cell (p := ⟨b0, o0 + k, none⟩) hb0).trans hc0
      have e1 := (hb.cell (p := ⟨b1, o1 + k, none⟩) hb1).trans hc1
      have e2 := (hb.cell (p := ⟨b2, o2 + k, none⟩) hb2).trans hc2
      have e3 := (hb.cell (p := ⟨b3, o3 + k, none⟩) hb3).trans hc3
      clear hc0 hc1 hc2 hc3
      have hsz : w.heap.size < wr.heap.size := lt_of_block hbox
      have m1 : wr.cell? ⟨w.heap.size, 1, none⟩ = some sl := by rw [cell_of_row wr _ 1 _ _ _ hbox]; rfl
      have m2 : wr.frozen? ⟨w.heap.size, 1, none⟩ = false := by simp [World.frozen?, hbox]
      have hlt' : (k : Int) < (n : Int) := by omega
      have g0 : ∀ o, (wr.alloc o).cell? ⟨b0, o0 + k, none⟩ = some (.string x0) := fun o => by rw [World.cell?_alloc_past _ _ _ (by omega)]; exact e0
      have g1 : ∀ o, (wr.alloc o).cell? ⟨b1, o1 + k, none⟩ = some (.string x1) := fun o => by rw [World.cell?_alloc_past _ _ _ (by omega)]; exact e1
      have g2 : ∀ o, (wr.alloc o).cell? ⟨b2, o2 + k, none⟩ = some (.string x2) := fun o => by rw [World.cell?_alloc_past _ _ _ (by omega)]; exact e2
      have g3 : ∀ o, (wr.alloc o).cell? ⟨b3, o3 + k, none⟩ = some (.string x3) := fun o => by rw [World.cell?_alloc_past _ _ _ (by omega)]; exact e3
      have gm : ∀ o, (wr.alloc o).cell? ⟨w.heap.size, 1, none⟩ = some sl := fun o => by rw [World.cell?_alloc_past _ _ _ (by omega)]; exact m1
      have hown1 : ((wr.alloc (.cells #[.string x0, .string x1, .string x2, .string x3] 37)).drew).ownsRow (w.heap.size + 1) 37 4 sl k (entVals ((table s0 s1 s2 s3 n).take k)) := (hown.alloc _).drew
      have hnews : ∀ j u, [Value.string x0, .string x1, .string x2, .string x3][j]? = some u → ((wr.alloc (.cells #[.string x0, .string x1, .string x2, .string x3] 37)).drew).cell? ((⟨wr.heap.size, 0, none⟩ : Addr).add j) = some u :=
        World.news_of_block (t := 37) (fr := (0, 0)) (heap_alloc_new _ _)
      have hone : ∀ u ∈ [Value.string x0, .string x1, .string x2, .string x3], u.oneCell' = true := by intro u hu; simp at hu; rcases hu with rfl | rfl | rfl | rfl <;> rfl
      go_wp2
      refine wp_region_held_drew (S := (fun w' : World => w'.cell? ⟨b0, o0 + k, none⟩ = some (.string x0) ∧ w'.cell? ⟨b1, o1 + k, none⟩ = some (.string x1) ∧ w'.cell? ⟨b2, o2 + k, none⟩ = some (.string x2) ∧ w'.cell? ⟨b3, o3 + k, none⟩ = some (.string x3))) (by kernel_rfl) (by simp [e0, e1, e2, e3]) (fun hHeld => ?_)
      refine take_at 0 43 (v := ?_) rfl rfl (by kernel_rfl) (by kernel_rfl) (by kernel_rfl) (fun _ _ _ h => h) (Or.inl ⟨by rfl, ?_⟩) (by assumption) ?_
      rotate_left
      · intro w hSw; (try dsimp only at hSw); go_simp <;> with_reducible rfl
      try simp only [Act.put, List.setIfInBounds_toArray, List.set_cons_zero, List.set_cons_succ]
      refine take_at 2 45 (v := ?_) rfl rfl (by kernel_rfl) (by kernel_rfl) (by kernel_rfl) (fun _ _ _ h => h) (Or.inl ⟨by rfl, ?_⟩) (by assumption) ?_
      rotate_left
      · intro w hSw; (try dsimp only at hSw); go_simp <;> with_reducible rfl
      try simp only [Act.put, List.setIfInBounds_toArray, List.set_cons_zero, List.set_cons_succ]
      refine take_at 3 46 (v := ?_) rfl rfl (by kernel_rfl) (by kernel_rfl) (by kernel_rfl) (fun _ _ _ h => h) (Or.inl ⟨by rfl, ?_⟩) (by assumption) ?_
      rotate_left
      · intro w hSw; (try dsimp only at hSw); go_simp <;> with_reducible rfl
      try simp only [Act.put, List.setIfInBounds_toArray, List.set_cons_zero, List.set_cons_succ]
      refine take_at 4 47 (v := ?_) rfl rfl (by kernel_rfl) (by kernel_rfl) (by kernel_rfl) (fun _ _ _ h => h) (Or.inl ⟨by rfl, ?_⟩) (by assumption) ?_
      rotate_left
      · intro w hSw; (try dsimp only at hSw); go_simp <;> with_reducible rfl
      try simp only [Act.put, List.setIfInBounds_toArray, List.set_cons_zero, List.set_cons_succ]
      refine take_at 5 48 (v := ?_) rfl rfl (by kernel_rfl) (by kernel_rfl) (by kernel_rfl) (fun _ _ _ h => h) (Or.inl ⟨by rfl, ?_⟩) (by assumption) ?_
      rotate_left
      · intro w hSw; (try dsimp only at hSw); go_simp <;> with_reducible rfl
      try simp only [Act.put, List.setIfInBounds_toArray, List.set_cons_zero, List.set_cons_succ]
      refine take_at 6 49 (v := ?_) rfl rfl (by kernel_rfl) (by kernel_rfl) (by kernel_rfl) (fun _ _ _ h => h) (Or.inl ⟨by rfl, ?_⟩) (by assumption) ?_
      rotate_left
      · intro w hSw; (try dsimp only at hSw); go_simp <;> with_reducible rfl
      try simp only [Act.put, List.setIfInBounds_toArray, List.set_cons_zero, List.set_cons_succ]
      refine take_at 7 50 (v := ?_) rfl rfl (by kernel_rfl) (by kernel_rfl) (by kernel_rfl) (fun _ _ _ h => h) (Or.inl ⟨by rfl, ?_⟩) (by assumption) ?_
      rotate_left
      · intro w hSw; (try dsimp only at hSw); go_simp <;> with_reducible rfl
      try simp only [Act.put, List.setIfInBounds_toArray, List.set_cons_zero, List.set_cons_succ]
      refine take_at 8 51 (v := ?_) rfl rfl (by kernel_rfl) (by kernel_rfl) (by kernel_rfl) (fun _ _ _ h => h) (Or.inl ⟨by rfl, ?_⟩) (by assumption) ?_
      rotate_left
      · intro w hSw; (try dsimp only at hSw); go_simp <;> with_reducible rfl
      try simp only [Act.put, List.setIfInBounds_toArray, List.set_cons_zero, List.set_cons_succ]
      refine take_at 9 52 (v := ?_) rfl rfl (by kernel_rfl) (by kernel_rfl) (by kernel_rfl) (fun _ _ _ h => h) (Or.inl ⟨by rfl, ?_⟩) (by assumption) ?_
      rotate_left
      · intro w hSw; (try dsimp only at hSw); go_simp <;> with_reducible rfl
      try simp only [Act.put, List.setIfInBounds_toArray, List.set_cons_zero, List.set_cons_succ]
      refine take_at 10 53 (v := ?_) rfl rfl (by kernel_rfl) (by kernel_rfl) (by kernel_rfl) (fun _ _ _ h => h) (Or.inl ⟨by rfl, ?_⟩) (by assumption) ?_
      rotate_left
      · intro w hSw; (try dsimp only at hSw); go_simp <;> with_reducible rfl
      try simp only [Act.put, List.setIfInBounds_toArray, List.set_cons_zero, List.set_cons_succ]
      refine take_at 11 54 (v := ?_) rfl rfl (by kernel_rfl) (by kernel_rfl) (by kernel_rfl) (fun _ _ _ h => h) (Or.inl ⟨by rfl, ?_⟩) (by assumption) ?_
      rotate_left
      · intro w hSw; (try dsimp only at hSw); go_simp <;> with_reducible rfl
      try simp only [Act.put, List.setIfInBounds_toArray, List.set_cons_zero, List.set_cons_succ]
      refine take_at 12 55 (v := ?_) rfl rfl (by kernel_rfl) (by kernel_rfl) (by kernel_rfl) (fun _ _ _ h => h) (Or.inl ⟨by rfl, ?_⟩) (by assumption) ?_
      rotate_left
      · intro w hSw; (try dsimp only at hSw); go_simp <;> with_reducible rfl
      try simp only [Act.put, List.setIfInBounds_toArray, List.set_cons_zero, List.set_cons_succ]
      refine take_at 13 56 (v := ?_) rfl rfl (by kernel_rfl) (by kernel_rfl) (by kernel_rfl) (fun _ _ _ h => h) (Or.inl ⟨by rfl, ?_⟩) (by assumption) ?_
      rotate_left
      · intro w hSw; (try dsimp only at hSw); go_simp <;> with_reducible rfl
      try simp only [Act.put, List.setIfInBounds_toArray, List.set_cons_zero, List.set_cons_succ]
      refine take_at 14 57 (v := ?_) rfl rfl (by kernel_rfl) (by kernel_rfl) (by kernel_rfl) (fun _ _ _ h => h) (Or.inl ⟨by rfl, ?_⟩) (by assumption) ?_
      rotate_left
      · intro w hSw; (try dsimp only at hSw); go_simp <;> with_reducible rfl
      try simp only [Act.put, List.setIfInBounds_toArray, List.set_cons_zero, List.set_cons_succ]
      refine take_at 15 58 (v := ?_) rfl rfl (by kernel_rfl) (by kernel_rfl) (by kernel_rfl) (fun _ _ _ h => h) (Or.inl ⟨by rfl, ?_⟩) (by assumption) ?_
      rotate_left
      · intro w hSw; (try dsimp only at hSw); go_simp <;> with_reducible rfl
      try simp only [Act.put, List.setIfInBounds_toArray, List.set_cons_zero, List.set_cons_succ]
      refine take_at 16 59 (v := ?_) rfl rfl (by kernel_rfl) (by kernel_rfl) (by kernel_rfl) (fun _ _ _ h => h) (Or.inl ⟨by rfl, ?_⟩) (by assumption) ?_
      rotate_left
      · intro w hSw; (try dsimp only at hSw); go_simp <;> with_reducible rfl
      try simp only [Act.put, List.setIfInBounds_toArray, List.set_cons_zero, List.set_cons_succ]
      refine take_at 17 60 (v := ?_) rfl rfl (by kernel_rfl) (by kernel_rfl) (by kernel_rfl) (fun _ _ _ h => h) (Or.inl ⟨by rfl, ?_⟩) (by assumption) ?_
      rotate_left
      · intro w hSw; (try dsimp only at hSw); go_simp <;> with_reducible rfl
      try simp only [Act.put, List.setIfInBounds_toArray, List.set_cons_zero, List.set_cons_succ]
      refine take_at 18 61 (v := ?_) rfl rfl (by kernel_rfl) (by kernel_rfl) (by kernel_rfl) (fun _ _ _ h => h) (Or.inl ⟨by rfl, ?_⟩) (by assumption) ?_
      rotate_left
      · intro w hSw; (try dsimp only at hSw); go_simp <;> with_reducible rfl
      try simp only [Act.put, List.setIfInBounds_toArray, List.set_cons_zero, List.set_cons_succ]
      refine take_at 19 62 (v := ?_) rfl rfl (by kernel_rfl) (by kernel_rfl) (by kernel_rfl) (fun _ _ _ h => h) (Or.inl ⟨by rfl, ?_⟩) (by assumption) ?_
      rotate_left
      · intro w hSw; (try dsimp only at hSw); go_simp <;> with_reducible rfl
      try simp only [Act.put, List.setIfInBounds_toArray, List.set_cons_zero, List.set_cons_succ]
      refine take_at 20 63 (v := ?_) rfl rfl (by kernel_rfl) (by kernel_rfl) (by kernel_rfl) (fun _ _ _ h => h) (Or.inl ⟨by rfl, ?_⟩) (by assumption) ?_
      rotate_left
      · intro w hSw; (try dsimp only at hSw); go_simp <;> with_reducible rfl
      try simp only [Act.put, List.setIfInBounds_toArray, List.set_cons_zero, List.set_cons_succ]
      refine wpAnyH_ready (rs := [1, 21]) (by kernel_rfl) (by simp) ?_
      refine AllReadyH.cons rfl (fun K hK => ?_) (AllReadyH.cons rfl (fun K hK => ?_) AllReadyH.nil)
      · go_simp
        refine hK.out _ _ (by simp [e0, e1, e2, e3]) (fun hHeld => ?_)
        clear hK K
        refine wpAnyH_ready (rs := [21]) (by kernel_rfl) (by simp) ?_
        refine AllReadyH.cons rfl (fun K hK => ?_) AllReadyH.nil
        go_simp
        refine hK.out _ _ ⟨by simpa using g0 _, by simpa using g1 _, by simpa using g2 _, by simpa using g3 _⟩ (fun hHeld => ?_)
        clear hK K
        refine wpAnyH_ready (rs := [22]) (by kernel_rfl) (by simp) ?_
        refine AllReadyH.cons rfl (fun K hK => ?_) AllReadyH.nil
        refine step_append_lies _ rfl (.tmp 44) (.tmp 64) 32 rfl (w.heap.size + 1) 37 i0 _ 4 64 Try.underlying32 hi hz0 hz1 hz2 rfl (by decide) sl k _ rfl hown1 ⟨wr.heap.size, 0, none⟩ 1 1 [.string x0, .string x1, .string x2, .string x3] rfl rfl hnews hone (by decide) (by unfold maxLen; omega) (by omega) (by simp; omega) _ rfl ?_
        intro g cap w1 hown2 hgrow hat hlt1
        have f0 : w1.cell? ⟨b0, o0 + k, none⟩ = some (.string x0) := by rw [hgrow.cell_far _ (by simp; omega) (row_far hown (by show b0 < _; omega))]; simpa using g0 _
        have f1 : w1.cell? ⟨b1, o1 + k, none⟩ = some (.string x1) := by rw [hgrow.cell_far _ (by simp; omega) (row_far hown (by show b1 < _; omega))]; simpa using g1 _
        have f2 : w1.cell? ⟨b2, o2 + k, none⟩ = some (.string x2) := by rw [hgrow.cell_far _ (by simp; omega) (row_far hown (by show b2 < _; omega))]; simpa using g2 _
        have f3 : w1.cell? ⟨b3, o3 + k, none⟩ = some (.string x3) := by rw [hgrow.cell_far _ (by simp; omega) (row_far hown (by show b3 < _; omega))]; simpa using g3 _
        have hbox1 : w1.heap[w.heap.size]? = some (.cells #[.slice none 0 0, sl] 34 (0, 0)) := by
          rw [hgrow.block _ (by simp; omega) (row_far hown (by omega))]
          exact (Below.heap_alloc _ _ _ hsz).trans hbox
        have hb1' : Below w.heap.size w w1 := ((hb.alloc (by omega) _).drew).grown hgrow (by simp; omega) (fun j hj => by rcases Nat.lt_or_ge j (w.heap.size + 1) with hj' | hj'; exact absurd hj.symm (row_far hown hj'); omega)
        have m1' : w1.cell? ⟨w.heap.size, 1, none⟩ = some sl := by rw [cell_of_row w1 _ 1 _ _ _ hbox1]; rfl
        have m2' : w1.frozen? ⟨w.heap.size, 1, none⟩ = false := by simp [World.frozen?, hbox1]
        have hrel' := rel_step Hg.out hbox1 hown2 hb1'
        refine hK.out _ _ ⟨f0, f1, f2, f3⟩ (fun hHeld => ?_)
        clear hK K hown2 hgrow hat hb1' hown1 hnews hone hHeld hown hbox hbox1
        have hHeld := And.intro f0 (And.intro f1 (And.intro f2 f3))
        try simp only [Act.put, List.setIfInBounds_toArray, List.set_cons_zero, List.set_cons_succ]
        refine take_at 23 66 (v := ?_) rfl rfl (by kernel_rfl) (by kernel_rfl) (by kernel_rfl) (fun _ _ _ h => h) (Or.inl ⟨by rfl, ?_⟩) (by assumption) ?_
        rotate_left
        · intro w hSw; (try dsimp only at hSw); go_simp <;> with_reducible rfl
        try simp only [Act.put, List.setIfInBounds_toArray, List.set_cons_zero, List.set_cons_succ]
        refine wpAnyH_ready (rs := [24]) (by kernel_rfl) (by simp) ?_
        refine AllReadyH.cons rfl (fun K hK => ?_) AllReadyH.nil
        go_simp
        refine hK.out _ _ ?_ (fun hHeld => ?_)
        · rw [World.cell?_setCell_far _ _ _ _ (by show w.heap.size ≠ b0; omega), World.cell?_setCell_far _ _ _ _ (by show w.heap.size ≠ b1; omega), World.cell?_setCell_far _ _ _ _ (by show w.heap.size ≠ b2; omega), World.cell?_setCell_far _ _ _ _ (by show w.heap.size ≠ b3; omega)]
          exact ⟨f0, f1, f2, f3⟩
        clear hK K hHeld
        refine wpAnyH_done (by kernel_rfl) ?_ _
        clear f0 f1 f2 f3 m1' m2' m1 m2 g0 g1 g2 g3 gm
        go_wp2
        go_roundw
        case rel => exact ⟨k + 1, _, by omega, by go_num, hrel'⟩
        case measure => simp [intOf]; omega
      · go_simp
        refine hK.out _ _ ⟨by simpa using g0 _, by simpa using g1 _, by simpa using g2 _, by simpa using g3 _⟩ (fun hHeld => ?_)
        clear hK K
        refine wpAnyH_ready (rs := [1]) (by kernel_rfl) (by simp) ?_
        refine AllReadyH.cons rfl (fun K hK => ?_) AllReadyH.nil
        go_simp
        refine hK.out _ _ ⟨by simpa using g0 _, by simpa using g1 _, by simpa using g2 _, by simpa using g3 _⟩ (fun hHeld => ?_)
        clear hK K
        refine wpAnyH_ready (rs := [22]) (by kernel_rfl) (by simp) ?_
        refine AllReadyH.cons rfl (fun K hK => ?_) AllReadyH.nil
        refine step_append_lies _ rfl (.tmp 44) (.tmp 64) 32 rfl (w.heap.size + 1) 37 i0 _ 4 64 Try.underlying32 hi hz0 hz1 hz2 rfl (by decide) sl k _ rfl hown1 ⟨wr.heap.size, 0, none⟩ 1 1 [.string x0, .string x1, .string x2, .string x3] rfl rfl hnews hone (by decide) (by unfold maxLen; omega) (by omega) (by simp; omega) _ rfl ?_
        intro g cap w1 hown2 hgrow hat hlt1
        have f0 : w1.cell? ⟨b0, o0 + k, none⟩ = some (.string x0) := by rw [hgrow.cell_far _ (by simp; omega) (row_far hown (by show b0 < _; omega))]; simpa using g0 _
        have f1 : w1.cell? ⟨b1, o1 + k, none⟩ = some (.string x1) := by rw [hgrow.cell_far _ (by simp; omega) (row_far hown (by show b1 < _; omega))]; simpa using g1 _
        have f2 : w1.cell? ⟨b2, o2 + k, none⟩ = some (.string x2) := by rw [hgrow.cell_far _ (by simp; omega) (row_far hown (by show b2 < _; omega))]; simpa using g2 _
        have f3 : w1.cell? ⟨b3, o3 + k, none⟩ = some (.string x3) := by rw [hgrow.cell_far _ (by simp; omega) (row_far hown (by show b3 < _; omega))]; simpa using g3 _
        have hbox1 : w1.heap[w.heap.size]? = some (.cells #[.slice none 0 0, sl] 34 (0, 0)) := by
          rw [hgrow.block _ (by simp; omega) (row_far hown (by omega))]
          exact (Below.heap_alloc _ _ _ hsz).trans hbox
        have hb1' : Below w.heap.size w w1 := ((hb.alloc (by omega) _).drew).grown hgrow (by simp; omega) (fun j hj => by rcases Nat.lt_or_ge j (w.heap.size + 1) with hj' | hj'; exact absurd hj.symm (row_far hown hj'); omega)
        have m1' : w1.cell? ⟨w.heap.size, 1, none⟩ = some sl := by rw [cell_of_row w1 _ 1 _ _ _ hbox1]; rfl
        have m2' : w1.frozen? ⟨w.heap.size, 1, none⟩ = false := by simp [World.frozen?, hbox1]
        have hrel' := rel_step Hg.out hbox1 hown2 hb1'
        refine hK.out _ _ ⟨f0, f1, f2, f3⟩ (fun hHeld => ?_)
        clear hK K hown2 hgrow hat hb1' hown1 hnews hone hHeld hown hbox hbox1
        have hHeld := And.intro f0 (And.intro f1 (And.intro f2 f3))
        try simp only [Act.put, List.setIfInBounds_toArray, List.set_cons_zero, List.set_cons_succ]
        refine take_at 23 66 (v := ?_) rfl rfl (by kernel_rfl) (by kernel_rfl) (by kernel_rfl) (fun _ _ _ h => h) (Or.inl ⟨by rfl, ?_⟩) (by assumption) ?_
        rotate_left
        · intro w hSw; (try dsimp only at hSw); go_simp <;> with_reducible rfl
        try simp only [Act.put, List.setIfInBounds_toArray, List.set_cons_zero, List.set_cons_succ]
        refine wpAnyH_ready (rs := [24]) (by kernel_rfl) (by simp) ?_
        refine AllReadyH.cons rfl (fun K hK => ?_) AllReadyH.nil
        go_simp
        refine hK.out _ _ ?_ (fun hHeld => ?_)
        · rw [World.cell?_setCell_far _ _ _ _ (by show w.heap.size ≠ b0; omega), World.cell?_setCell_far _ _ _ _ (by show w.heap.size ≠ b1; omega), World.cell?_setCell_far _ _ _ _ (by show w.heap.size ≠ b2; omega), World.cell?_setCell_far _ _ _ _ (by show w.heap.size ≠ b3; omega)]
          exact ⟨f0, f1, f2, f3⟩
        clear hK K hHeld
        refine wpAnyH_done (by kernel_rfl) ?_ _
        clear f0 f1 f2 f3 m1' m2' m1 m2 g0 g1 g2 g3 gm
        go_wp2
        go_roundw
        case rel => exact ⟨k + 1, _, by omega, by go_num, hrel'⟩
        case measure => simp [intOf]; omega
    have hkn : k = n := by omega
    subst hkn
    have hsz : w.heap.size < wr.heap.size := lt_of_block hbox
    have htk : (table s0 s1 s2 s3 k).take k = table s0 s1 s2 s3 k := List.take_of_length_le (by rw [table_length]; exact Nat.le_refl _)
    rw [htk] at hown
    obtain ⟨ao, cap, rfl, hes⟩ := ents_of_own (table_length _ _ _ _ _) hown
    have m0 : wr.cell? ⟨w.heap.size, 0, none⟩ = some (.slice none 0 0) := by rw [cell_of_row wr _ 0 _ _ _ hbox]; rfl
    have m1 : wr.cell? ⟨w.heap.size, 1, none⟩ = some (.slice ao k cap) := by rw [cell_of_row wr _ 1 _ _ _ hbox]; rfl
    clear htk r0 r1 r2 r3
    go_wp2_with fail
    refine (replaced_any ao k cap _ (table s0 s1 s2 s3 k) p v wr hn hes).mono ?_
    rintro e w2 ⟨rfl, hb2⟩
    have hbb : Below w.heap.size w w2 := hb.trans (hb2.mono (by omega))
    have hz2 := hb2.size
    generalize hr : repl (table s0 s1 s2 s3 k) p v = r
    obtain ⟨y0, y1⟩ := r
    have Hr : Hid (repl (table s0 s1 s2 s3 k) p v = (y0, y1)) := hr
    clear hr
    clear hes hown hbox m0 m1 hb2
    go_wp2_with fail
    go_quiet (fail)
    go_wp2
    go_ret2
    exact ⟨by rw [Hr.out]; rfl, below_drewN (hbb.alloc (by omega) _) _⟩

end Go.Proofs.Qxb6603385a
