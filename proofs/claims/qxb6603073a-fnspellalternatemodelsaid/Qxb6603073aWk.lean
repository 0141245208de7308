import Derived.Test.Qxb6603073aWh
import Derived.Test.Qxb6603073aWj
import Derived.Test.Qxb6603073aWy
namespace Go.Proofs.Qxb6603073a
open Go.RowKit

theorem alt_small (ps : List Part) : (alt ps).1.length ≤ 64 ∧ (alt ps).2.1.length ≤ 64 := by
  rw [alt_def]
  by_cases h1 : allE ps = true ∧ (uniq (catE ps)).length ≤ 64
  · rw [if_pos h1]; exact ⟨h1.2, by simp⟩
  · rw [if_neg h1]
    by_cases h2 : allN ps = true ∧ (uniq (catN ps)).length ≤ 64
    · rw [if_pos h2]; exact ⟨by simp, h2.2⟩
    · rw [if_neg h2]; exact ⟨by simp, by simp⟩

set_option linter.unusedSimpArgs false in
set_option maxHeartbeats 4000000 in
set_option maxRecDepth 100000 in
theorem law (a : Option Addr) (n c : Nat) (ps : List Part) (w : World) (hn : n ≤ maxLen) (hp : PartsAt w a n ps) :
    Calls Try.prog 3 #[.slice a n c] w fun e w' => e = .returned (.bool true) ∧ Below w.heap.size w w' := by
  have Hp : Hid (PartsAt w a n ps) := hp
  have Hn : Hid (n ≤ maxLen) := hn
  clear hp hn
  go_enter Try.func3, Try.ntmps3
  go_wp2_with fail
  refine (zzbytes_any a n c ps _ (hout Hn) (hout Hp)).mono ?_
  rintro e W ⟨rfl | ⟨rfl, hsh⟩, rfl⟩
  · go_wp2_with fail
    go_ret
    exact ⟨rfl, Below.refl _ _⟩
  have Hsh : Hid (Short n ps) := hsh
  clear hsh
  go_wp2_with fail
  refine (spellbytes_any a n c ps _ (hout Hn) (hout Hp)).mono ?_
  rintro e W1 ⟨⟨x, rfl⟩, hb1⟩
  have Hb1 : Hid (Below W.heap.size W W1) := hb1
  clear hb1
  by_cases hx : 1048576 < x
  · go_wp2_with fail
    go_ret
    exact ⟨rfl, hout Hb1⟩
  go_wp2_with fail
  refine (clonespells_any a n c ps _ (hout Hsh) ((hout Hp).later (hout Hb1))).mono ?_
  rintro e W2 ⟨a', c', qs, rfl, hq, hz, hs, hb2⟩
  have Hq : Hid (PartsAt W2 a' n qs) := hq
  have Hz := (show Hid _ from hz)
  have Hs : Hid (Short n qs) := hs
  have Hb2 : Hid (Below W.heap.size W W2) := (hout Hb1).trans (hb2.mono (hout Hb1).size)
  clear hq hz hs hb2 Hb1
  go_wp2_with fail
  refine (call_any a' n c' qs _ (hout Hs) (hout Hq) (hout Hz)).mono ?_
  rintro e W3 ⟨ve, vn, rfl, he, hv, hb3⟩
  have Hq3 : Hid (PartsAt W3 a' n qs) := (hout Hq).later hb3
  have He : Hid (RowOf W3 ve (alt qs).1) := he
  have Hv : Hid (RowOf W3 vn (alt qs).2.1) := hv
  have Hb3 : Hid (Below W.heap.size W W3) := (hout Hb2).trans (hb3.mono (hout Hb2).size)
  clear he hv hb3 Hb2 Hq
  go_wp2_with fail
  refine (model_any a' n c' qs _ (hout Hn) (hout Hq3)).mono ?_
  rintro e W4 ⟨ue, un, rfl, ge, gv, hb4⟩
  have He4 : Hid (RowOf W4 ve (alt qs).1) := (hout He).later hb4
  have Hv4 : Hid (RowOf W4 vn (alt qs).2.1) := (hout Hv).later hb4
  have Ge : Hid (RowOf W4 ue (alt qs).1) := ge
  have Gv : Hid (RowOf W4 un (alt qs).2.1) := gv
  have Hb4 : Hid (Below W.heap.size W W4) := (hout Hb3).trans (hb4.mono (hout Hb3).size)
  clear ge gv hb4 Hb3 He Hv Hq3
  go_wp2_with fail
  refine (same_any ve ue (alt qs).1 _ (alt_small qs).1 (hout He4) (hout Ge)).mono ?_
  rintro e W5 ⟨rfl, hb5⟩
  have Hv5 : Hid (RowOf W5 vn (alt qs).2.1) := (hout Hv4).later hb5
  have Gv5 : Hid (RowOf W5 un (alt qs).2.1) := (hout Gv).later hb5
  have Hb5 : Hid (Below W.heap.size W W5) := (hout Hb4).trans (hb5.mono (hout Hb4).size)
  clear hb5 Hb4 He4 Ge Hv4 Gv
  go_wp2_with fail
  refine (same_any vn un (alt qs).2.1 _ (alt_small qs).2 (hout Hv5) (hout Gv5)).mono ?_
  rintro e W6 ⟨rfl, hb6⟩
  have Hb6 : Hid (Below W.heap.size W W6) := (hout Hb5).trans (hb6.mono (hout Hb5).size)
  clear hb6 Hb5
  go_wp2_with fail
  go_ret
  exact ⟨by simp, hout Hb6⟩

end Go.Proofs.Qxb6603073a
