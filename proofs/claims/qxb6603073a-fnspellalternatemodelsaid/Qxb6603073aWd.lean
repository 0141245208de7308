import Derived.Test.Qxb6603073aWc
import Derived.Deep.AppendLies
import Derived.Sort.Walk0
namespace Go.Proofs.Qxb6603073a
open Go.RowKit

theorem hout {p : Prop} (h : Hid p) : p := h

/-- Strings in their cells. -/
def rowS (S : List Byts) : List Value := S.map fun l => .string ⟨l.toArray⟩

theorem rowS_at {S : List Byts} {j : Nat} (h : j < S.length) : (rowS S)[j]? = some (.string ⟨(S.getD j []).toArray⟩) := by
  simp [rowS, List.getD, List.getElem?_eq_getElem h]

theorem rowS_set (S : List Byts) (j : Nat) (x : Byts) : (rowS S).set j (.string ⟨x.toArray⟩) = rowS (S.set j x) := by
  simp [rowS, List.map_set]

/-- v' lies where v lay, or in a new block. -/
def Lies (w : World) (v v' : Value) : Prop := ∀ k, v'.ownBlock = some k → v.ownBlock = some k ∨ w.heap.size ≤ k

theorem Lies.refl (w : World) (v : Value) : Lies w v v := fun _ h => .inl h

theorem grow_step {w wr w' : World} {v s : Value} (h : w.grownBy wr v.ownBlock) (hl : Lies w v s) (h' : wr.grownBy w' s.ownBlock) : w.grownBy w' v.ownBlock :=
  ⟨h'.os.trans h.os, h'.tape.trans h.tape, h'.output.trans h.output, Nat.le_trans h.size h'.size, fun k hk hne =>
    (h'.block k (Nat.lt_of_lt_of_le hk h.size) (fun e => by
      rcases hl k e.symm with e' | e'
      · exact hne e'.symm
      · omega)).trans (h.block k hk hne)⟩

theorem lies_step {w wr : World} {v s s' : Value} (h : Lies w v s) (h' : Lies wr s s') (hs : w.heap.size ≤ wr.heap.size) : Lies w v s' := fun k hk => by
  rcases h' k hk with e | e
  · exact h k e
  · exact .inr (by omega)

theorem grow_refl (w : World) (r : Option Nat) : w.grownBy w r := ⟨rfl, rfl, rfl, Nat.le_refl _, fun _ _ _ => rfl⟩

theorem grow_round {wr w2 w3 : World} {s : Value} {o : Obj} {g : Nat} (h2 : (wr.alloc o).grownBy w2 s.ownBlock) (hl : s.ownBlock = some g ∨ g = wr.heap.size + 1) (h3 : w2.grownBy w3 (some g)) : wr.grownBy w3 s.ownBlock := by
  have hs := h2.size
  simp at hs
  refine ⟨h3.os.trans h2.os, h3.tape.trans h2.tape, h3.output.trans h2.output, by have := h3.size; omega, fun k hk hne => ?_⟩
  have e3 := h3.block k (by omega) (fun e => by
    rcases hl with hl | hl
    · exact hne (by rw [hl, e])
    · have : k = g := by simpa using e
      omega)
  rw [e3, h2.block k (by simp; omega) hne]
  exact Below.heap_alloc wr o k hk

theorem grow_set {w2 w3 : World} {g j : Nat} {u : Value} (h : w2.grownBy w3 (some g)) : w2.grownBy (w3.setCell ⟨g, j, none⟩ u) (some g) :=
  ⟨h.os, h.tape, h.output, by simpa using h.size, fun k hk hne => by
    rw [Below.heap_setCell w3 ⟨g, j, none⟩ u k (fun e => hne (by rw [e]))]
    exact h.block k hk hne⟩

theorem own_form {w : World} {B : Nat} {s : Value} {S : List Byts} (h : w.ownsRow B 9 1 s S.length (rowS S)) : ∃ ao cap, s = .slice ao S.length cap ∧ (0 < S.length → ∃ g, ao = some ⟨g, 0, none⟩) := by
  rcases h.2 with ⟨rfl, h0⟩ | ⟨g, cap, cur, rfl, _⟩
  · exact ⟨none, 0, by rw [h0], fun h => by omega⟩
  · exact ⟨_, cap, rfl, fun _ => ⟨g, rfl⟩⟩

theorem own_cell {w : World} {B g cap n : Nat} {S : List Byts} (h : w.ownsRow B 9 1 (.slice (some ⟨g, 0, none⟩) n cap) n (rowS S)) {j : Nat} (hj : j < n) :
    w.cell? ⟨g, j, none⟩ = some (.string ⟨(S.getD j []).toArray⟩) := by
  have hl : S.length = n := by have := h.1; simpa [rowS] using this
  rw [h.cellAt j (by omega), rowS_at (by omega)]

theorem less_eq (x y : Byts) : Op.bytesLess (⟨x.toArray⟩ : ByteArray).toList (⟨y.toArray⟩ : ByteArray).toList = decide (x < y) := by
  rw [bytesLess_eq, Lib.toList_data, Lib.toList_data]
theorem tl_eq (x : Byts) : (⟨x.toArray⟩ : ByteArray).toList = x := by rw [Lib.toList_data]

theorem shift_set {S : List Byts} {y : Byts} {K : Nat} (h0 : 0 < K) (hK : K ≤ S.length) :
    (S.take K ++ y :: S.drop K).set K (S.getD (K - 1) []) = S.take (K - 1) ++ S.getD (K - 1) [] :: S.drop (K - 1) := by
  have hl : (S.take K).length = K := by simp; omega
  obtain ⟨K, rfl⟩ : ∃ n, K = n + 1 := ⟨K - 1, by omega⟩
  simp only [Nat.add_sub_cancel]
  rw [List.set_append_right _ _ (by omega), hl, Nat.sub_self, List.set_cons_zero, getD_eq (by omega)]
  have e1 : S.take (K + 1) = S.take K ++ [S[K]] := List.take_succ_eq_append_getElem (by omega)
  have e2 : S.drop K = S[K] :: S.drop (K + 1) := List.drop_eq_getElem_cons (by omega)
  rw [e1, e2]
  simp only [List.append_assoc, List.cons_append, List.nil_append]

theorem shift_get {S : List Byts} {y : Byts} {K : Nat} (h0 : 0 < K) (hK : K ≤ S.length) : (S.take K ++ y :: S.drop K).getD (K - 1) [] = S.getD (K - 1) [] := by
  have hl : (S.take K).length = K := by simp; omega
  simp only [List.getD]
  rw [List.getElem?_append_left (by omega), List.getElem?_take, if_pos (by omega)]

theorem last_set {S : List Byts} {x y : Byts} {K : Nat} (hK : K ≤ S.length) : (S.take K ++ y :: S.drop K).set K x = S.take K ++ x :: S.drop K := by
  have hl : (S.take K).length = K := by simp; omega
  rw [List.set_append_right _ _ (by omega), hl, Nat.sub_self, List.set_cons_zero]

theorem Try.info9 : (Try.prog.info? 9).map (fun i => (i.zero, i.size, i.bytes)) = some (some (.string ByteArray.empty), 1, 16) := by kernel_rfl

theorem take_snoc {xs : List Byts} {k : Nat} (h : k < xs.length) : xs.take (k + 1) = xs.take k ++ [xs.getD k []] := by
  rw [List.take_succ_eq_append_getElem h, getD_eq h]

theorem full_rest {E xs S : List Byts} {k i : Nat} {x : Byts} (hk : k < xs.length) (hx : xs.getD k [] = x) (h : Built (E ++ xs.take k) S false) (hp : Place S x i) (hne : i < S.length → S.getD i [] ≠ x) (hl : S.length = 64) : Built (E ++ xs) S true := by
  have := h.full hp hne hl (xs.drop k) (by
    rw [← hx, getD_eq hk, List.drop_eq_getElem_cons hk]
    exact List.mem_cons_self)
  rwa [List.append_assoc, List.take_append_drop] at this

/-- What insertCapped leaves. -/
def InsPost (W0 w : World) (v : Value) (E xs : List Byts) (e : Ending) (w' : World) : Prop :=
  ∃ v' S' over, e = .returned (.tuple #[v', .bool over]) ∧ w'.ownsRow W0.heap.size 9 1 v' S'.length (rowS S') ∧ Built (E ++ xs) S' over ∧ w.grownBy w' v.ownBlock ∧ Lies w v v' ∧ (S' = [] → v' = .slice none 0 0)

theorem idx_facts {w : World} {B g cap n : Nat} {S : List Byts} (h : w.ownsRow B 9 1 (.slice (some ⟨g, 0, none⟩) n cap) n (rowS S)) {j : Nat} (hj : j < n) {x : Byts} {sx : ByteArray} (hsx : Hid (⟨x.toArray⟩ = sx)) :
    ∃ sj : ByteArray, w.cell? ⟨g, j, none⟩ = some (.string sj) ∧ Op.bytesLess sj.toList sx.toList = decide (S.getD j [] < x) ∧ (sj.toList = sx.toList ↔ S.getD j [] = x) :=
  ⟨_, own_cell h hj, by rw [← hout hsx, less_eq], by rw [← hout hsx, tl_eq, tl_eq]⟩

set_option linter.unusedSimpArgs false in
set_option maxHeartbeats 2000000 in
set_option maxRecDepth 100000 in
theorem insert_any (W0 w : World) (hb : Below W0.heap.size W0 w) (v : Value) (S E : List Byts) (hown : w.ownsRow W0.heap.size 9 1 v S.length (rowS S)) (hB : Built E S false) (hnil : S = [] → v = .slice none 0 0)
    (a : Option Addr) (m c : Nat) (xs : List Byts) (hm : m ≤ maxLen) (hx : StrsAt W0 a m xs) :
    Calls Try.prog 16 #[v, .slice a m c] w fun e w' => InsPost W0 w v E xs e w' := by
  unfold maxLen at hm
  have hbase : ∀ k, v.ownBlock = some k → W0.heap.size ≤ k := fun k hk => (hown.lt k hk).1
  have hlen := hx.1
  go_enter Try.func16, Try.ntmps16
  go_wp2
  go_loopw [0, 12] (fun s i wr => ∃ (k : Nat) (S : List Byts), k ≤ m ∧ i = .int .i64 k ∧ wr.ownsRow W0.heap.size 9 1 s S.length (rowS S) ∧ Built (E ++ xs.take k) S false ∧ w.grownBy wr v.ownBlock ∧ Lies w v s ∧ (S = [] → s = .slice none 0 0)) (fun _ i _ => m - (intOf i).toNat)
  case atStart => exact ⟨0, S, Nat.zero_le _, rfl, hown, by simpa using hB, grow_refl _ _, Lies.refl _ _, hnil⟩
  case round =>
    clear hown hB hnil S
    obtain ⟨k, S, hk, rfl, hown, hB, hg, hl, hnil⟩ := hrel
    obtain ⟨ao, cap, rfl, hao⟩ := own_form hown
    by_cases hlt : k < m
    case neg =>
      have hkm : k = m := by omega
      subst hkm
      rw [List.take_of_length_le (by omega)] at hB
      go_wp2
      go_ret2
      exact ⟨_, _, _, rfl, hown, hB, hg, hl, hnil⟩
    have hbr : Below W0.heap.size W0 wr := hb.grown hg hb.size hbase
    obtain ⟨b, off, ha, hbb, hck⟩ := (hx.later hbr).2 k hlt
    subst ha
    generalize hgx : xs.getD k [] = x at hck
    have Hx : Hid (xs.getD k [] = x) := hgx
    have Hxs : Hid (StrsAt W0 (some ⟨b, off, none⟩) m xs) := hx
    have Hown : Hid (wr.ownsRow W0.heap.size 9 1 (.slice ao S.length cap) S.length (rowS S)) := hown
    have HB : Hid (Built (E ++ xs.take k) S false) := hB
    have Hg : Hid (w.grownBy wr v.ownBlock) := hg
    have Hl : Hid (Lies w v (.slice ao S.length cap)) := hl
    have Hbr : Hid (Below W0.heap.size W0 wr) := hbr
    have Hnil : Hid (S = [] → Value.slice ao S.length cap = .slice none 0 0) := hnil
    have hS64 := hB.len
    clear hgx hx hown hB hg hl hbr hnil
    generalize hsx : (⟨x.toArray⟩ : ByteArray) = sx at hck
    have Hsx : Hid ((⟨x.toArray⟩ : ByteArray) = sx) := hsx
    clear hsx
    have hlt' : (k : Int) < m := by omega
    go_wp2
    go_loop [8] (fun i => ∃ (j : Nat), j ≤ S.length ∧ i = .int .i64 j ∧ Hid (∀ l, l < j → S.getD l [] < x)) (fun i => S.length - (intOf i).toNat)
    case atStart => exact ⟨0, Nat.zero_le _, rfl, fun l hl => by omega⟩
    case round =>
      obtain ⟨j, hj, rfl, hlo⟩ := hrel
      by_cases hcont : j < S.length ∧ S.getD j [] < x
      case pos =>
        obtain ⟨hjl, hless⟩ := hcont
        obtain ⟨g, rfl⟩ := hao (by omega)
        obtain ⟨sj, hcj, hbl, hqe⟩ := idx_facts (hout Hown) hjl Hsx
        rw [decide_eq_true hless] at hbl
        have hjl' : (j : Int) < S.length := by omega
        have Hless : Hid (S.getD j [] < x) := hless
        clear hless hqe
        go_wp2
        go_round
        case rel => exact ⟨j + 1, by omega, by go_num, fun l hl => by
          by_cases h : l < j
          · exact hlo l h
          · have : l = j := by omega
            subst this
            exact Hless⟩
        case measure => simp [intOf]; omega
      have hpl : Place S x j := ⟨hj, hlo, fun h h' => hcont ⟨h, h'⟩⟩
      have Hpl : Hid (Place S x j) := hpl
      by_cases hfound : j < S.length ∧ S.getD j [] = x
      case pos =>
        obtain ⟨hjl, heq⟩ := hfound
        obtain ⟨g, rfl⟩ := hao (by omega)
        obtain ⟨sj, hcj, hbl, hqe⟩ := idx_facts (hout Hown) hjl Hsx
        rw [decide_eq_false (hpl.hi hjl)] at hbl
        replace hqe := hqe.2 heq
        have hbl' : Op.bytesLess sx.toList sx.toList = false := by rw [← hqe] at hbl ⊢; exact hbl
        have hjl' : (j : Int) < S.length := by omega
        have hmem : x ∈ S := by rw [← heq, getD_eq hjl]; exact List.getElem_mem hjl
        have Hmem : Hid (x ∈ S) := hmem
        clear hmem heq hcont hpl
        go_wp2
        go_roundw
        case rel => exact ⟨k + 1, S, by omega, by go_num, hout Hown, by
          rw [take_snoc (by omega), hout Hx, ← List.append_assoc]
          exact (hout HB).there Hmem, hout Hg, hout Hl, hout Hnil⟩
        case measure => simp [intOf]; omega
      have hne : j < S.length → S.getD j [] ≠ x := fun h e => hfound ⟨h, e⟩
      have Hne : Hid (j < S.length → S.getD j [] ≠ x) := hne
      clear hfound hcont hlo
      by_cases h64 : S.length = 64
      case pos =>
        have Hf : Hid (Built (E ++ xs) S true) := full_rest (by omega) (hout Hx) (hout HB) hpl hne h64
        have Hown2 : Hid (wr.ownsRow W0.heap.size 9 1 (.slice ao 64 cap) S.length (rowS S)) := by
          have := hout Hown
          rw [show (Value.slice ao S.length cap) = .slice ao 64 cap by rw [h64]] at this
          exact this
        have Hl2 : Hid (Lies w v (.slice ao 64 cap)) := by
          have := hout Hl
          rw [show (Value.slice ao S.length cap) = .slice ao 64 cap by rw [h64]] at this
          exact this
        clear hpl hne
        by_cases hjl : j < S.length
        · obtain ⟨g, rfl⟩ := hao (by omega)
          obtain ⟨sj, hcj, hbl, hqe⟩ := idx_facts (hout Hown) hjl Hsx
          rw [decide_eq_false ((hout Hpl).hi hjl)] at hbl
          replace hqe : (sj.toList == sx.toList) = false := beq_eq_false_iff_ne.2 fun e => (hout Hne) hjl (hqe.1 e)
          have hj64 : j < 64 := by omega
          have hjl' : (j : Int) < 64 := by omega
          go_wp2
          go_ret2
          exact ⟨_, _, _, rfl, hout Hown2, Hf, hout Hg, hout Hl2, fun h => by rw [h] at h64; simp at h64⟩
        · have hj64 : ¬ j < 64 := by omega
          have hjl' : ¬ (j : Int) < 64 := by omega
          go_wp2
          go_ret2
          exact ⟨_, _, _, rfl, hout Hown2, Hf, hout Hg, hout Hl2, fun h => by rw [h] at h64; simp at h64⟩
      obtain ⟨i0, hi, hz0, hz1, hz2⟩ := info_parts Try.info9
      have hown1 : (wr.alloc (.cells #[.string sx] 9)).ownsRow W0.heap.size 9 1 (.slice ao S.length cap) S.length (rowS S) := (hout Hown).alloc _
      have hnew1 : ∀ j u, [Value.string sx][j]? = some u → (wr.alloc (.cells #[.string sx] 9)).cell? ((⟨wr.heap.size, 0, none⟩ : Addr).add j) = some u :=
        World.news_of_block (t := 9) (fr := (0, 0)) (heap_alloc_new _ _)
      have hsz1 : W0.heap.size ≤ (wr.alloc (.cells #[.string sx] 9)).heap.size := by have := (hout Hbr).size; simp; omega
      clear hpl hne
      by_cases hjl : j < S.length
      case pos =>
        obtain ⟨g, rfl⟩ := hao (by omega)
        obtain ⟨sj, hcj, hbl, hqe⟩ := idx_facts (hout Hown) hjl Hsx
        rw [decide_eq_false ((hout Hpl).hi hjl)] at hbl
        replace hqe : (sj.toList == sx.toList) = false := beq_eq_false_iff_ne.2 fun e => (hout Hne) hjl (hqe.1 e)
        have hjl' : (j : Int) < S.length := by omega
        go_wp2_with (at_builtin; refine wpList_append_lies _ rfl _ _ 26 rfl W0.heap.size 9 i0 (.string ByteArray.empty) 1 16 Try.underlying26 hi hz0 hz1 hz2 rfl (by decide) _ _ _ rfl hown1 ⟨wr.heap.size, 0, none⟩ 1 1 [.string sx] rfl rfl hnew1 ?c1 (by decide) ?c2 ?c3 hsz1 _ rfl ?_)
        case c1 => first | (intro u hu; simp at hu; subst hu; rfl) | rfl | simp [Value.oneCell']
        case c2 => unfold maxLen; omega
        case c3 => omega
        intro g2 cap2 w2 hown2 hg2 hl2 hlt2
        have Hown3 : Hid (w2.ownsRow W0.heap.size 9 1 (.slice (some ⟨g2, 0, none⟩) (S.length + 1) cap2) (S.length + 1) (rowS (S.take S.length ++ x :: S.drop S.length))) := by
          rw [List.take_of_length_le (Nat.le_refl _), List.drop_of_length_le (Nat.le_refl _)]
          rw [← hout Hsx] at hown2
          show w2.ownsRow _ _ _ _ _ _
          simpa [rowS] using hown2
        have Hg2 := (show Hid _ from hg2)
        have Hl2 := (show Hid _ from hl2)
        clear hown2 hg2 hl2 hown1 hnew1 hsz1 hcj hbl hqe
        go_wp2_with fail
        go_loopw [9] (fun i w3 => ∃ (K : Nat) (y : Byts), j ≤ K ∧ K ≤ S.length ∧ i = .int .i64 K ∧ w3.ownsRow W0.heap.size 9 1 (.slice (some ⟨g2, 0, none⟩) (S.length + 1) cap2) (S.length + 1) (rowS (S.take K ++ y :: S.drop K)) ∧ w2.grownBy w3 (some g2)) (fun i _ => (intOf i).toNat)
        case atStart => exact ⟨S.length, x, hj, Nat.le_refl _, by go_num, hout Hown3, grow_refl _ _⟩
        case round =>
          obtain ⟨K, y, hjK, hKn, rfl, hown3, hg3⟩ := hrel
          have Hg3 := (show Hid _ from hg3)
          by_cases hlt3 : j < K
          case pos =>
            have hcK := own_cell hown3 (j := K - 1) (by omega)
            rw [shift_get (by omega) hKn] at hcK
            have hcK2 := own_cell hown3 (j := K) (by omega)
            generalize (⟨((S.take K ++ y :: S.drop K).getD K []).toArray⟩ : ByteArray) = sy at hcK2
            have hfK := hown3.frozenAt K
            have hst := hown3.stored K (.string ⟨(S.getD (K - 1) []).toArray⟩)
            rw [rowS_set, shift_set (by omega) hKn] at hst
            generalize (⟨(S.getD (K - 1) []).toArray⟩ : ByteArray) = sk at hcK hst
            have Hst := (show Hid _ from hst)
            clear hown3 hst hg3
            have hK1 : (K : Int) - 1 = ((K - 1 : Nat) : Int) := by omega
            have hK2 : K - 1 < S.length + 1 := by omega
            have hK3 : K < S.length + 1 := by omega
            go_wp2_with fail
            go_roundw
            case rel => exact ⟨K - 1, _, by omega, by omega, rfl, (hout Hst).1, grow_set (hout Hg3)⟩
            case measure => simp [intOf]; omega
          have hKj : K = j := by omega
          subst hKj
          have hcK2 := own_cell hown3 (j := K) (by omega)
          generalize (⟨((S.take K ++ y :: S.drop K).getD K []).toArray⟩ : ByteArray) = sy at hcK2
          have hfK := hown3.frozenAt K
          have hst := hown3.stored K (.string sx)
          rw [← hout Hsx, rowS_set, last_set hKn, hout Hsx] at hst
          have Hst := (show Hid _ from hst)
          clear hown3 hst hg3
          have hK3 : K < S.length + 1 := by omega
          go_wp2_with fail
          go_roundw
          case rel =>
            have hlenS : (S.take K ++ x :: S.drop K).length = S.length + 1 := by simp; omega
            refine ⟨k + 1, S.take K ++ x :: S.drop K, by omega, by go_num, ?_, ?_, ?_, ?_, fun h => by simp at h⟩
            · rw [hlenS]; exact (hout Hst).1
            · rw [take_snoc (by omega), hout Hx, ← List.append_assoc]
              exact (hout HB).insert (hout Hpl) (hout Hne) h64
            · exact grow_step (hout Hg) (hout Hl) (grow_round (hout Hg2) (hout Hl2) (grow_set (hout Hg3)))
            · refine lies_step (hout Hl) (fun q hq => ?_) (hout Hg).size
              have hq' : g2 = q := by simpa [Value.ownBlock] using hq
              rcases hout Hl2 with e | e
              · exact .inl (by rw [e, hq'])
              · exact .inr (by omega)
          case measure => simp [intOf]; omega
      case neg =>
        have hjl' : ¬ (j : Int) < S.length := by omega
        go_wp2_with (at_builtin; refine wpList_append_lies _ rfl _ _ 26 rfl W0.heap.size 9 i0 (.string ByteArray.empty) 1 16 Try.underlying26 hi hz0 hz1 hz2 rfl (by decide) _ _ _ rfl hown1 ⟨wr.heap.size, 0, none⟩ 1 1 [.string sx] rfl rfl hnew1 ?c1 (by decide) ?c2 ?c3 hsz1 _ rfl ?_)
        case c1 => first | (intro u hu; simp at hu; subst hu; rfl) | rfl | simp [Value.oneCell']
        case c2 => unfold maxLen; omega
        case c3 => omega
        intro g2 cap2 w2 hown2 hg2 hl2 hlt2
        have Hown3 : Hid (w2.ownsRow W0.heap.size 9 1 (.slice (some ⟨g2, 0, none⟩) (S.length + 1) cap2) (S.length + 1) (rowS (S.take S.length ++ x :: S.drop S.length))) := by
          rw [List.take_of_length_le (Nat.le_refl _), List.drop_of_length_le (Nat.le_refl _)]
          rw [← hout Hsx] at hown2
          show w2.ownsRow _ _ _ _ _ _
          simpa [rowS] using hown2
        have Hg2 := (show Hid _ from hg2)
        have Hl2 := (show Hid _ from hl2)
        clear hown2 hg2 hl2 hown1 hnew1 hsz1
        go_wp2_with fail
        go_loopw [9] (fun i w3 => ∃ (K : Nat) (y : Byts), j ≤ K ∧ K ≤ S.length ∧ i = .int .i64 K ∧ w3.ownsRow W0.heap.size 9 1 (.slice (some ⟨g2, 0, none⟩) (S.length + 1) cap2) (S.length + 1) (rowS (S.take K ++ y :: S.drop K)) ∧ w2.grownBy w3 (some g2)) (fun i _ => (intOf i).toNat)
        case atStart => exact ⟨S.length, x, hj, Nat.le_refl _, by go_num, hout Hown3, grow_refl _ _⟩
        case round =>
          obtain ⟨K, y, hjK, hKn, rfl, hown3, hg3⟩ := hrel
          have Hg3 := (show Hid _ from hg3)
          by_cases hlt3 : j < K
          case pos =>
            exfalso; omega
          have hKj : K = j := by omega
          subst hKj
          have hcK2 := own_cell hown3 (j := K) (by omega)
          generalize (⟨((S.take K ++ y :: S.drop K).getD K []).toArray⟩ : ByteArray) = sy at hcK2
          have hfK := hown3.frozenAt K
          have hst := hown3.stored K (.string sx)
          rw [← hout Hsx, rowS_set, last_set hKn, hout Hsx] at hst
          have Hst := (show Hid _ from hst)
          clear hown3 hst hg3
          have hK3 : K < S.length + 1 := by omega
          go_wp2_with fail
          go_roundw
          case rel =>
            have hlenS : (S.take K ++ x :: S.drop K).length = S.length + 1 := by simp; omega
            refine ⟨k + 1, S.take K ++ x :: S.drop K, by omega, by go_num, ?_, ?_, ?_, ?_, fun h => by simp at h⟩
            · rw [hlenS]; exact (hout Hst).1
            · rw [take_snoc (by omega), hout Hx, ← List.append_assoc]
              exact (hout HB).insert (hout Hpl) (hout Hne) h64
            · exact grow_step (hout Hg) (hout Hl) (grow_round (hout Hg2) (hout Hl2) (grow_set (hout Hg3)))
            · refine lies_step (hout Hl) (fun q hq => ?_) (hout Hg).size
              have hq' : g2 = q := by simpa [Value.ownBlock] using hq
              rcases hout Hl2 with e | e
              · exact .inl (by rw [e, hq'])
              · exact .inr (by omega)
          case measure => simp [intOf]; omega

end Go.Proofs.Qxb6603073a
