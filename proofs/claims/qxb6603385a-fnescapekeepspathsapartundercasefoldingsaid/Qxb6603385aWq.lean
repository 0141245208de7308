import Derived.Test.Qxb6603385aWp
namespace Go.Proofs.Qxb6603385a
open Go.RowKit

theorem ret_bool {a b : Bool} (h : a = b) : Ending.returned (.bool a) = .returned (.bool b) := by rw [h]

set_option maxHeartbeats 400000 in
theorem valid_any (s : ByteArray) (w : World) (hs : s.size ≤ 16777216) :
    Calls Try.prog 18 #[.string s] w fun e w' => e = .returned (.bool (validB s)) ∧ w' = w := by
  go_enter Try.func18, Try.ntmps18
  go_wp2
  go_loop [3] (fun i => ∃ (pos fuel : Nat), pos ≤ s.size ∧ i = .int .i64 pos ∧ s.size ≤ pos + fuel ∧ validFrom s fuel pos = validB s) (fun i => s.size - (intOf i).toNat)
  case atStart => exact ⟨0, s.size, Nat.zero_le _, rfl, by omega, rfl⟩
  case round =>
    obtain ⟨pos, fuel, hps, rfl, hfu, hva⟩ := hrel
    by_cases hp : pos < s.size
    case pos =>
      obtain ⟨f, rfl⟩ : ∃ f, fuel = f + 1 := ⟨fuel - 1, by omega⟩
      rw [validFrom, if_pos hp] at hva
      have hvl := vw_le s pos hp
      have hvw := vw_any s pos w hp (by omega)
      by_cases hv0 : vw s pos = 0
      case pos =>
        rw [if_pos hv0] at hva
        rw [hv0] at hvw
        have Hva : Hid (false = validB s) := hva
        clear hva hv0 hvl
        go_wp2_with (go_at_call 25; refine hvw.mono ?_; rintro e w' ⟨rfl, rfl⟩)
        go_ret
        exact ⟨ret_bool Hva.out, rfl⟩
      rw [if_neg hv0] at hva
      generalize vw s pos = v at hvw hvl hv0 hva
      have Hva : Hid (validFrom s f (pos + v) = validB s) := hva
      have hv1 : ((v : Int) == 0) = false := by simp; omega
      clear hva
      go_wp2_with (go_at_call 25; refine hvw.mono ?_; rintro e w' ⟨rfl, rfl⟩)
      go_round
      case rel => exact ⟨pos + v, f, by omega, by go_num, by omega, Hva.out⟩
      case measure => simp [intOf]; omega
    rw [validFrom_end s fuel pos hp] at hva
    have Hva : Hid (true = validB s) := hva
    clear hva
    go_wp2
    go_ret
    exact ⟨ret_bool Hva.out, rfl⟩

def BangSays (e : Ending) (s : ByteArray) : Prop := e = .returned (.bool true) ∨ (e = .returned (.bool false) ∧ ∀ k, k < s.size → bAt s k ≠ 33)

set_option maxHeartbeats 400000 in
theorem bang_any (s : ByteArray) (w : World) (hs : s.size ≤ 16777216) :
    Calls Try.prog 20 #[.string s] w fun e w' => BangSays e s ∧ w' = w := by
  go_enter Try.func20, Try.ntmps20
  go_wp2
  go_loop [3] (fun i => ∃ (pos : Nat), pos ≤ s.size ∧ i = .int .i64 pos ∧ ∀ k, k < pos → bAt s k ≠ 33) (fun i => s.size - (intOf i).toNat)
  case atStart => exact ⟨0, Nat.zero_le _, rfl, by omega⟩
  case round =>
    obtain ⟨pos, hps, rfl, hall⟩ := hrel
    have Hall : Hid (∀ k, k < pos → bAt s k ≠ 33) := hall
    clear hall
    by_cases hp : pos < s.size
    case pos =>
      have hb := bAt_eq s pos hp
      by_cases h33 : (s[pos]'hp).toNat = 33
      case pos =>
        have h33' : (((s[pos]'hp).toNat : Int) == 33) = true := by simp [h33]
        clear h33 hb
        go_wp2
        go_ret
        exact ⟨.inl rfl, rfl⟩
      have h33' : (((s[pos]'hp).toNat : Int) == 33) = false := by simp; omega
      have Hn : Hid (bAt s pos ≠ 33) := by rw [hb]; exact h33
      clear h33 hb
      go_wp2
      go_round
      case rel =>
        refine ⟨pos + 1, by omega, by go_num, fun k hk => ?_⟩
        by_cases e : k = pos
        · subst e; exact Hn.out
        · exact Hall.out k (by omega)
      case measure => simp [intOf]; omega
    go_wp2
    go_ret
    exact ⟨.inr ⟨rfl, fun k hk => Hall.out k (by omega)⟩, rfl⟩

end Go.Proofs.Qxb6603385a
