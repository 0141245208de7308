import Derived.Test.Qxb6603385aPlain2
import Derived.Test.Qxb6603385aWh
namespace Go.Proofs.Qxb6603385a
open Go.RowKit

theorem make0 (c : Nat) (hc : c ≤ 65536) (w : World) :
    Sem.run Try.prog (Instr.makeSlice 22 (.int .i64 0) (.int .i64 (c : Int))) w = .ok (.slice (some ⟨w.heap.size, 0, none⟩) 0 c) (w.alloc (.cells (madeCells #[.string ByteArray.empty] c) 9)) := by
  obtain ⟨i0, hi, hz0, hz1, hz2⟩ := info_parts Try.info9
  rw [run_make w 22 9 i0 (.string ByteArray.empty) Try.underlying22 hi hz0 .i64 .i64 0 c (by omega) (by omega) (by rw [hz2]; omega) (by omega), hz1]
  simp only [Value.cells, Int.toNat_natCast, Nat.mul_one]
  rfl

theorem own_new (W : World) (base c : Nat) (hc : c ≤ 65536) (hb : base ≤ W.heap.size) :
    (W.alloc (.cells (madeCells #[.string ByteArray.empty] c) 9)).ownsRow base 9 1 (.slice (some ⟨W.heap.size, 0, none⟩) 0 c) 0 [] :=
  ⟨rfl, .inr ⟨_, _, _, rfl, hb, heap_alloc_new _ _, Nat.zero_le _, by unfold maxLen; omega, by rw [size_madeCells, Nat.mul_one], rfl⟩⟩

/-- The four rows of the filtered table, at the blocks H .. H + 3. -/
structure Four (wr : World) (H m c : Nat) (f0 f1 f2 f3 : List ByteArray) : Prop where
  r0 : wr.ownsRow H 9 1 (.slice (some ⟨H, 0, none⟩) m c) m (strVals f0)
  r1 : wr.ownsRow H 9 1 (.slice (some ⟨H + 1, 0, none⟩) m c) m (strVals f1)
  r2 : wr.ownsRow H 9 1 (.slice (some ⟨H + 1 + 1, 0, none⟩) m c) m (strVals f2)
  r3 : wr.ownsRow H 9 1 (.slice (some ⟨H + 1 + 1 + 1, 0, none⟩) m c) m (strVals f3)

theorem Four.start (W : World) (c : Nat) (hc : c ≤ 65536) {o : Obj} (ho : o = .cells (madeCells #[.string ByteArray.empty] c) 9) :
    Four ((((W.alloc o).alloc o).alloc o).alloc o) W.heap.size 0 c [] [] [] [] := by
  subst ho
  refine ⟨?_, ?_, ?_, ?_⟩
  · exact (((own_new W W.heap.size c hc (Nat.le_refl _)).alloc _).alloc _).alloc _
  · have h := ((own_new (W.alloc (.cells (madeCells #[.string ByteArray.empty] c) 9)) W.heap.size c hc (by simp)).alloc (.cells (madeCells #[.string ByteArray.empty] c) 9)).alloc (.cells (madeCells #[.string ByteArray.empty] c) 9)
    simpa [strVals] using h
  · have h := (own_new ((W.alloc (.cells (madeCells #[.string ByteArray.empty] c) 9)).alloc (.cells (madeCells #[.string ByteArray.empty] c) 9)) W.heap.size c hc (by simp; omega)).alloc (.cells (madeCells #[.string ByteArray.empty] c) 9)
    simpa [strVals] using h
  · have h := own_new (((W.alloc (.cells (madeCells #[.string ByteArray.empty] c) 9)).alloc (.cells (madeCells #[.string ByteArray.empty] c) 9)).alloc (.cells (madeCells #[.string ByteArray.empty] c) 9)) W.heap.size c hc (by simp; omega)
    simpa [strVals] using h

theorem strs_of_own {wr : World} {base g m c : Nat} {f : List ByteArray} (hf : f.length = m) (h : wr.ownsRow base 9 1 (.slice (some ⟨g, 0, none⟩) m c) m (strVals f)) : StrsAt wr (some ⟨g, 0, none⟩) m f := by
  refine ⟨hf, fun i hi => ⟨g, 0, rfl, ?_, ?_⟩⟩
  · rcases h.2 with ⟨h', _⟩ | ⟨g', cap', cur, h', _, hg, _⟩
    · simp at h'
    · simp at h'
      obtain ⟨rfl, rfl⟩ := h'
      exact lt_of_block hg
  · rw [Nat.zero_add, h.cellAt i (by omega)]
    simp [strVals, hf, hi]

theorem strVals_snoc (l : List ByteArray) (x : ByteArray) : strVals (l ++ [x]) = strVals l ++ [.string x] := by simp [strVals]

theorem below_app {H : Nat} {W w w1 : World} (hb : Below H W w) (hz : H ≤ w.heap.size) {o : Obj} {g : Nat} (hg : (w.alloc o).grownBy w1 (some g)) (hgH : H ≤ g) : Below H W w1 :=
  (hb.alloc hz o).grown hg (by simp; omega) (fun k hk => by cases hk; exact hgH)

theorem one_new (w : World) (v : Value) : ∀ j u, [v][j]? = some u → (w.alloc (.cells #[v] 9)).cell? ((⟨w.heap.size, 0, none⟩ : Addr).add j) = some u :=
  World.news_of_block (t := 9) (fr := (0, 0)) (heap_alloc_new _ _)
theorem one_str (s : ByteArray) : ∀ u ∈ [Value.string s], u.oneCell' = true := by intro u hu; simp at hu; subst hu; rfl

set_option maxHeartbeats 1000000 in
set_option maxRecDepth 100000 in
theorem law4 (a0 a1 a2 a3 : Option Addr) (n n1 n2 n3 c0 c1 c2 c3 : Nat) (s0 s1 s2 s3 : List ByteArray) (p v : ByteArray) (w : World) (h0 : n ≤ maxLen) (h1 : n1 ≤ maxLen) (h2 : n2 ≤ maxLen) (h3 : n3 ≤ maxLen) (hp : p.size ≤ maxLen) (hv : v.size ≤ maxLen)
    (l0 : a0 = none → n = 0 ∧ c0 = 0) (l1 : a1 = none → n1 = 0 ∧ c1 = 0) (l2 : a2 = none → n2 = 0 ∧ c2 = 0) (l3 : a3 = none → n3 = 0 ∧ c3 = 0)
    (r0 : StrsAt w a0 n s0) (r1 : StrsAt w a1 n1 s1) (r2 : StrsAt w a2 n2 s2) (r3 : StrsAt w a3 n3 s3) :
    Calls Try.prog 4 #[.slice a0 n c0, .slice a1 n1 c1, .slice a2 n2 c2, .slice a3 n3 c3, .string p, .string v] w fun e w' => e = .returned (.bool true) ∧ Below w.heap.size w w' := by
  go_enter Try.func4, Try.ntmps4
  go_wp2_with fail
  refine (zzbytes12_any a0 a1 a2 a3 n n1 n2 n3 c0 c1 c2 c3 s0 s1 s2 s3 p v w h0 h1 h2 h3 hp hv r0 r1 r2 r3).mono ?_
  rintro e w' ⟨⟨r, rfl⟩, rfl⟩
  cases r
  case false => go_wp2_with fail; go_ret; exact ⟨rfl, Below.refl _ _⟩
  go_wp2_with fail
  refine (fits_any a0 a1 a2 a3 n n1 n2 n3 c0 c1 c2 c3 s0 s1 s2 s3 p v _ h0 h1 h2 h3 hp hv r0 r1 r2 r3).mono ?_
  rintro e W ⟨rfl | ⟨rfl, hn, e1, e2, e3⟩, rfl⟩
  · go_wp2_with fail; go_ret; exact ⟨rfl, Below.refl _ _⟩
  have f1 := e1.symm
  have f2 := e2.symm
  have f3 := e3.symm
  clear e1 e2 e3
  subst f1
  subst f2
  subst f3
  clear h1 h2 h3 h0
  go_wp2_with fail
  refine (clone_uni a0 n c0 s0 _ l0 r0 hn).mono ?_
  rintro e W1 ⟨a0', c0', rfl, q0, b1⟩
  go_wp2_with fail
  refine (clone_uni a1 n c1 s1 _ l1 (r1.later b1) hn).mono ?_
  rintro e W2 ⟨a1', c1', rfl, q1, b2⟩
  have b2' : Below W.heap.size W W2 := b1.trans (b2.mono b1.size)
  go_wp2_with fail
  refine (clone_uni a2 n c2 s2 _ l2 (r2.later b2') hn).mono ?_
  rintro e W3 ⟨a2', c2', rfl, q2, b3⟩
  have b3' : Below W.heap.size W W3 := b2'.trans (b3.mono b2'.size)
  go_wp2_with fail
  refine (clone_uni a3 n c3 s3 _ l3 (r3.later b3') hn).mono ?_
  rintro e W4 ⟨a3', c3', rfl, q3, b4⟩
  have bel : Below W.heap.size W W4 := b3'.trans (b4.mono b3'.size)
  have t0 : StrsAt W4 a0' n s0 := ((q0.later b2).later b3).later b4
  have t1 : StrsAt W4 a1' n s1 := (q1.later b3).later b4
  have t2 : StrsAt W4 a2' n s2 := q2.later b4
  clear b1 b2 b3 b4 b2' b3' q0 q1 q2 r0 r1 r2 r3 l0 l1 l2 l3
  go_wp2_with fail
  go_loop [13, 14] (fun nn i => ∃ (k : Nat), k ≤ n ∧ i = .int .i64 k ∧ nn = .int .i64 ((idx s0 p k).length : Int)) (fun _ i => n - (intOf i).toNat)
  case atStart => exact ⟨0, Nat.zero_le _, rfl, rfl⟩
  case round =>
    obtain ⟨k, hk, rfl, rfl⟩ := hrel
    have hil := idx_le s0 p k
    by_cases hlt : k < n
    case pos =>
      obtain ⟨b0, o0, rfl, hb0, hc0⟩ := t0.2 k hlt
      generalize hg0 : s0.getD k ByteArray.empty = x0 at hc0
      have Hg0 : Hid (s0.getD k ByteArray.empty = x0) := hg0
      clear hg0 t0 t1 t2 q3
      generalize hcm : (idx s0 p k).length = cm
      have Hcm : Hid ((idx s0 p k).length = cm) := hcm
      rw [hcm] at hil
      clear hcm
      go_wp2
      · have k0 : (x0.toList == p.toList) = true := by assumption
        go_round
        case rel => exact ⟨k + 1, by omega, by go_num, by rw [idx_hit (by rw [Hg0.out]; exact k0), List.length_append, Hcm.out]; rfl⟩
        case measure => simp [intOf]; omega
      · have k0 : (x0.toList == p.toList) = false := by assumption
        go_round
        case rel => exact ⟨k + 1, by omega, by go_num, by rw [idx_miss (by rw [Hg0.out]; exact k0), Hcm.out]⟩
        case measure => simp [intOf]; omega
    have hkn : n = k := by omega
    subst hkn
    clear hk hlt
    generalize hcm : (idx s0 p n).length = c
    have Hcm : Hid ((idx s0 p n).length = c) := hcm
    rw [hcm] at hil
    clear hcm
    have hmk := make0 c (by omega)
    go_wp2
    clear hmk
    obtain ⟨i0, hi, hz0, hz1, hz2⟩ := info_parts Try.info9
    go_loopw [15, 16, 17, 18, 19] (fun f0 f1 f2 f3 i wr => ∃ (k : Nat), k ≤ n ∧ i = .int .i64 k ∧ f0 = .slice (some ⟨W4.heap.size, 0, none⟩) (idx s0 p k).length c ∧ f1 = .slice (some ⟨W4.heap.size + 1, 0, none⟩) (idx s0 p k).length c ∧
        f2 = .slice (some ⟨W4.heap.size + 1 + 1, 0, none⟩) (idx s0 p k).length c ∧ f3 = .slice (some ⟨W4.heap.size + 1 + 1 + 1, 0, none⟩) (idx s0 p k).length c ∧
        Four wr W4.heap.size (idx s0 p k).length c (col s0 s0 p k) (col s1 s0 p k) (col s2 s0 p k) (col s3 s0 p k) ∧ Below W4.heap.size W4 wr) (fun _ _ _ _ i _ => n - (intOf i).toNat)
    case atStart =>
      exact ⟨0, Nat.zero_le _, rfl, rfl, rfl, rfl, rfl, Four.start W4 c (by omega) rfl, ((((Below.refl _ W4).alloc (Nat.le_refl _) _).alloc (by simp) _).alloc (by simp; omega) _).alloc (by simp; omega) _⟩
    case round =>
      obtain ⟨k, hk, rfl, rfl, rfl, rfl, rfl, hF, hbel⟩ := hrel
      have hz := hbel.size
      by_cases hlt : k < n
      case pos =>
        obtain ⟨b0, o0, rfl, hb0, hc0⟩ := t0.2 k hlt
        obtain ⟨b1, o1, rfl, hb1, hc1⟩ := t1.2 k hlt
        obtain ⟨b2, o2, rfl, hb2, hc2⟩ := t2.2 k hlt
        obtain ⟨b3, o3, rfl, hb3, hc3⟩ := q3.2 k hlt
        have hmono := idx_mono (s0 := s0) (p := p) (k := k + 1) (n := n) (by omega)
        rw [Hcm.out] at hmono
        generalize hg0 : s0.getD k ByteArray.empty = x0 at hc0
        generalize hg1 : s1.getD k ByteArray.empty = x1 at hc1
        generalize hg2 : s2.getD k ByteArray.empty = x2 at hc2
        generalize hg3 : s3.getD k ByteArray.empty = x3 at hc3
        have e0 := (hbel.cell (p := ⟨b0, o0 + k, none⟩) hb0).trans hc0
        by_cases hit : (x0.toList == p.toList) = true
        case pos =>
          have hh : ((s0.getD k ByteArray.empty).toList == p.toList) = true := by rw [hg0]; exact hit
          have HF : Hid (∀ wn, Four wn W4.heap.size ((idx s0 p k).length + 1) c (col s0 s0 p k ++ [x0]) (col s1 s0 p k ++ [x1]) (col s2 s0 p k ++ [x2]) (col s3 s0 p k ++ [x3]) →
              Four wn W4.heap.size (idx s0 p (k + 1)).length c (col s0 s0 p (k + 1)) (col s1 s0 p (k + 1)) (col s2 s0 p (k + 1)) (col s3 s0 p (k + 1))) := by
            intro wn h
            rw [col_hit hh, col_hit hh, col_hit hh, col_hit hh, hg0, hg1, hg2, hg3, idx_hit hh, List.length_append]
            exact h
          have HL : Hid ((idx s0 p (k + 1)).length = (idx s0 p k).length + 1) := by rw [idx_hit hh, List.length_append]; rfl
          rw [HL.out] at hmono
          clear hg0 hg1 hg2 hg3 hh t0 t1 t2 q3
          generalize (idx s0 p k).length = m at HF HL hmono hF ⊢
          go_wp2_with (first
            | (at_builtin; refine wpList_append_fits _ rfl (.tmp 82) (.tmp 87) 22 rfl W4.heap.size 9 i0 1 Try.underlying22 hi hz1 W4.heap.size m c _ rfl (hF.r0.alloc _) ⟨wr.heap.size, 0, none⟩ 1 1 [.string x0] rfl rfl (one_new _ _) (one_str _) (by omega) ?_; intro w1 v0 g1; have B1 := below_app hbel hz g1 (Nat.le_refl _); have y1 := B1.size; have e1 := (B1.cell (p := ⟨b1, o1 + k, none⟩) hb1).trans hc1)
            | (at_builtin; refine wpList_append_fits _ rfl (.tmp 89) (.tmp 94) 22 rfl W4.heap.size 9 i0 1 Try.underlying22 hi hz1 (W4.heap.size + 1) m c _ rfl (((hF.r1.alloc _).kept g1 (.inr (by simp [Value.ownBlock]))).alloc _) ⟨w1.heap.size, 0, none⟩ 1 1 [.string x1] rfl rfl (one_new _ _) (one_str _) (by omega) ?_; intro w2 v1 g2; have B2 := below_app B1 y1 g2 (by omega); have y2 := B2.size; have e2 := (B2.cell (p := ⟨b2, o2 + k, none⟩) hb2).trans hc2)
            | (at_builtin; refine wpList_append_fits _ rfl (.tmp 96) (.tmp 101) 22 rfl W4.heap.size 9 i0 1 Try.underlying22 hi hz1 (W4.heap.size + 1 + 1) m c _ rfl (((((hF.r2.alloc _).kept g1 (.inr (by simp [Value.ownBlock]; omega))).alloc _).kept g2 (.inr (by simp [Value.ownBlock]))).alloc _) ⟨w2.heap.size, 0, none⟩ 1 1 [.string x2] rfl rfl (one_new _ _) (one_str _) (by omega) ?_; intro w3 v2 g3; have B3 := below_app B2 y2 g3 (by omega); have y3 := B3.size; have e3 := (B3.cell (p := ⟨b3, o3 + k, none⟩) hb3).trans hc3)
            | (at_builtin; refine wpList_append_fits _ rfl (.tmp 103) (.tmp 108) 22 rfl W4.heap.size 9 i0 1 Try.underlying22 hi hz1 (W4.heap.size + 1 + 1 + 1) m c _ rfl (((((((hF.r3.alloc _).kept g1 (.inr (by simp [Value.ownBlock]; omega))).alloc _).kept g2 (.inr (by simp [Value.ownBlock]; omega))).alloc _).kept g3 (.inr (by simp [Value.ownBlock]))).alloc _) ⟨w3.heap.size, 0, none⟩ 1 1 [.string x3] rfl rfl (one_new _ _) (one_str _) (by omega) ?_; intro w4 v3 g4; have B4 := below_app B3 y3 g4 (by omega)))
          have q0 := ((((((v0.alloc (.cells #[.string x1] 9)).kept g2 (.inr (by simp [Value.ownBlock]))).alloc (.cells #[.string x2] 9)).kept g3 (.inr (by simp [Value.ownBlock] <;> omega))).alloc (.cells #[.string x3] 9)).kept g4 (.inr (by simp [Value.ownBlock] <;> omega)))
          have q1 := ((((v1.alloc (.cells #[.string x2] 9)).kept g3 (.inr (by simp [Value.ownBlock]))).alloc (.cells #[.string x3] 9)).kept g4 (.inr (by simp [Value.ownBlock])))
          have q2 := ((v2.alloc (.cells #[.string x3] 9)).kept g4 (.inr (by simp [Value.ownBlock])))
          rw [← strVals_snoc] at q0 q1 q2 v3
          have R := HF.out w4 ⟨q0, q1, q2, v3⟩
          clear q0 q1 q2 v0 v1 v2 v3 g1 g2 g3 g4 B1 B2 B3 hF HF
          go_roundw
          case rel => exact ⟨k + 1, by omega, by go_num, by rw [HL.out], by rw [HL.out], by rw [HL.out], by rw [HL.out], R, B4⟩
          case measure => simp [intOf]; omega
        have hit' : (x0.toList == p.toList) = false := by simpa using hit
        have hh : ((s0.getD k ByteArray.empty).toList == p.toList) = false := by rw [hg0]; exact hit'
        have HL : Hid (idx s0 p (k + 1) = idx s0 p k) := idx_miss hh
        have HC : Hid (∀ s, col s s0 p (k + 1) = col s s0 p k) := fun s => col_miss hh
        clear hit hg0 hg1 hg2 hg3 hh t0 t1 t2 q3 hc1 hc2 hc3
        go_wp2
        go_roundw
        case rel => exact ⟨k + 1, by omega, by go_num, by rw [HL.out], by rw [HL.out], by rw [HL.out], by rw [HL.out], by rw [HL.out, HC.out, HC.out, HC.out, HC.out]; exact hF, hbel⟩
        case measure => simp [intOf]; omega
      have hkn : n = k := by omega
      subst hkn
      have t0' := t0.later hbel
      have t1' := t1.later hbel
      have t2' := t2.later hbel
      have t3' := q3.later hbel
      rw [Hcm.out] at hF ⊢
      have u0 := strs_of_own (by rw [col_length, Hcm.out]) hF.r0
      have u1 := strs_of_own (by rw [col_length, Hcm.out]) hF.r1
      have u2 := strs_of_own (by rw [col_length, Hcm.out]) hF.r2
      have u3 := strs_of_own (by rw [col_length, Hcm.out]) hF.r3
      have hbw : Below W.heap.size W wr := bel.trans (hbel.mono bel.size)
      have hc1 := zzreplaced_any a0' a1' a2' a3' n c0' c1' c2' c3' s0 s1 s2 s3 p v wr hn t0' t1' t2' t3'
      have hc2 := fun w5 (h5 : Below wr.heap.size wr w5) => zzreplaced_any _ _ _ _ c c c c c _ _ _ _ p v w5 (by omega) (u0.later h5) (u1.later h5) (u2.later h5) (u3.later h5)
      have hrc := repl_col s0 s1 s2 s3 p v n
      have hr0 := fun h : (idx s0 p n).length = 0 => repl_zero (s1 := s1) (s2 := s2) (s3 := s3) (v := v) h
      rw [Hcm.out] at hrc hr0
      rw [hrc] at hc2
      generalize repl (table s0 s1 s2 s3 n) p v = r at hc1 hc2 hr0
      obtain ⟨y0, y1⟩ := r
      have HR : Hid (c = 0 → (y0, y1) = (p, v)) := hr0
      clear hrc hr0 u0 u1 u2 u3 t0' t1' t2' t3' t0 t1 t2 q3 hF hbel bel
      by_cases h0 : c = 0
      case pos =>
        have hyy := HR.out h0
        simp only [Prod.mk.injEq] at hyy
        obtain ⟨rfl, rfl⟩ := hyy
        have hc0 : ((c : Int) == 0) = true := by simp [h0]
        clear h0 HR
        go_wp2_with fail
        refine hc1.mono ?_
        clear hc1
        rintro e w5 ⟨rfl, hb5⟩
        have hc3 := hc2 w5 hb5
        clear hc2
        go_wp2_with fail
        refine hc3.mono ?_
        clear hc3
        rintro e w6 ⟨rfl, hb6⟩
        go_wp2_with fail
        go_ret
        exact ⟨rfl, (hbw.trans (hb5.mono hbw.size)).trans (hb6.mono (Nat.le_trans hbw.size hb5.size))⟩
      have hc0 : ((c : Int) == 0) = false := by simp; omega
      clear h0 HR
      go_wp2_with fail
      refine hc1.mono ?_
      clear hc1
      rintro e w5 ⟨rfl, hb5⟩
      have hc3 := hc2 w5 hb5
      clear hc2
      go_wp2_with fail
      refine hc3.mono ?_
      clear hc3
      rintro e w6 ⟨rfl, hb6⟩
      go_wp2_with fail
      go_ret
      exact ⟨rfl, (hbw.trans (hb5.mono hbw.size)).trans (hb6.mono (Nat.le_trans hbw.size hb5.size))⟩

end Go.Proofs.Qxb6603385a
