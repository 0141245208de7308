/-
  The plain side of the un-escaping law: lists of bytes. No Go in sight.
-/
namespace Go.Proofs.Qxb6603385a

def escByte (c : UInt8) : List UInt8 := if 65 ≤ c.toNat ∧ c.toNat ≤ 90 then [33, (c.toNat + 32).toUInt8] else [c]
def escB (l : List UInt8) : List UInt8 := l.flatMap escByte

def unesc : List UInt8 → List UInt8
  | [] => []
  | [c] => [c]
  | c :: d :: rest => if c.toNat = 33 ∧ 97 ≤ d.toNat ∧ d.toNat ≤ 122 then (d.toNat - 32).toUInt8 :: unesc rest else c :: unesc (d :: rest)

def foldB (c : UInt8) : UInt8 := if 65 ≤ c.toNat ∧ c.toNat ≤ 90 then (c.toNat + 32).toUInt8 else c

theorem unesc_other (c : UInt8) (m : List UInt8) (h : c.toNat ≠ 33) : unesc (c :: m) = c :: unesc m := by
  cases m with
  | nil => rfl
  | cons d rest =>
    rw [unesc, if_neg (fun hh => h hh.1)]

theorem unesc_bang (c d : UInt8) (m : List UInt8) (h : c.toNat = 33) (h1 : 97 ≤ d.toNat) (h2 : d.toNat ≤ 122) : unesc (c :: d :: m) = (d.toNat - 32).toUInt8 :: unesc m := by
  rw [unesc, if_pos ⟨h, h1, h2⟩]

theorem unesc_plain (c : UInt8) (m : List UInt8) (h : ∀ d rest, m = d :: rest → ¬ (c.toNat = 33 ∧ 97 ≤ d.toNat ∧ d.toNat ≤ 122)) : unesc (c :: m) = c :: unesc m := by
  cases m with
  | nil => rfl
  | cons d rest =>
    rw [unesc, if_neg (h d rest rfl)]

theorem toUInt8_toNat (c : UInt8) : c.toNat.toUInt8 = c := by simp

theorem unesc_escB : ∀ l : List UInt8, (∀ c ∈ l, c.toNat ≠ 33) → unesc (escB l) = l
  | [], _ => rfl
  | c :: l, h => by
    have ih := unesc_escB l (fun x hx => h x (List.mem_cons_of_mem _ hx))
    by_cases hc : 65 ≤ c.toNat ∧ c.toNat ≤ 90
    · have e : escB (c :: l) = 33 :: (c.toNat + 32).toUInt8 :: escB l := by simp [escB, escByte, hc]
      have e2 : ((c.toNat + 32).toUInt8).toNat = c.toNat + 32 := by simp; omega
      rw [e, unesc_bang _ _ _ rfl (by rw [e2]; omega) (by rw [e2]; omega), e2, ih, Nat.add_sub_cancel, toUInt8_toNat]
    · have e : escB (c :: l) = c :: escB l := by simp [escB, escByte, hc]
      rw [e, unesc_other _ _ (h c List.mem_cons_self), ih]

theorem fold_escB (l : List UInt8) : (escB l).map foldB = escB l := by
  have h : ∀ c ∈ escB l, foldB c = c := by
    intro c hc
    unfold escB at hc
    rw [List.mem_flatMap] at hc
    obtain ⟨x, _, hx⟩ := hc
    unfold escByte at hx
    split at hx
    · rename_i hcap
      have e2 : ((x.toNat + 32).toUInt8).toNat = x.toNat + 32 := by simp; omega
      simp only [List.mem_cons, List.not_mem_nil, or_false] at hx
      rcases hx with rfl | rfl
      · decide
      · rw [foldB, if_neg (by rw [e2]; omega)]
    · rename_i hcap
      simp only [List.mem_cons, List.not_mem_nil, or_false] at hx
      subst hx
      rw [foldB, if_neg hcap]
  calc (escB l).map foldB = (escB l).map id := List.map_congr_left h
    _ = escB l := List.map_id _

theorem escB_inj {l m : List UInt8} (hl : ∀ c ∈ l, c.toNat ≠ 33) (hm : ∀ c ∈ m, c.toNat ≠ 33) (h : escB l = escB m) : l = m := by
  rw [← unesc_escB l hl, h, unesc_escB m hm]

end Go.Proofs.Qxb6603385a
