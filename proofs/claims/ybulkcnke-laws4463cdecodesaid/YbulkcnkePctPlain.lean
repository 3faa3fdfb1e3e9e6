/-
  Percent encoding, in plain words: no Go in sight.
-/
namespace Go.Proofs.Ybulkcnke

/-- an unreserved byte, as a number -/
def U (c : Int) : Prop := (97 ≤ c ∧ c ≤ 122) ∨ (65 ≤ c ∧ c ≤ 90) ∨ (48 ≤ c ∧ c ≤ 57) ∨ c = 45 ∨ c = 46 ∨ c = 95 ∨ c = 126

def unres (b : UInt8) : Bool := decide ((97 ≤ b.toNat ∧ b.toNat ≤ 122) ∨ (65 ≤ b.toNat ∧ b.toNat ≤ 90) ∨ (48 ≤ b.toNat ∧ b.toNat ≤ 57) ∨ b.toNat = 45 ∨ b.toNat = 46 ∨ b.toNat = 95 ∨ b.toNat = 126)

theorem unres_iff (b : UInt8) : unres b = true ↔ U (b.toNat : Int) := by
  unfold unres U
  rw [decide_eq_true_iff]
  omega

/-- an upper-case hex digit -/
def hexN (d : Nat) : Nat := if d < 10 then 48 + d else 55 + d
def hexB (d : Nat) : UInt8 := UInt8.ofNat (hexN d)

theorem hexB_toNat (d : Nat) (h : d < 16) : (hexB d).toNat = hexN d := by
  unfold hexB hexN
  split <;> (rw [UInt8.toNat_ofNat']; omega)

def encB (b : UInt8) : List UInt8 := if unres b = true then [b] else [37, hexB (b.toNat / 16), hexB (b.toNat % 16)]
def encL (l : List UInt8) : List UInt8 := l.flatMap encB

theorem encB_yes {b : UInt8} (h : unres b = true) : encB b = [b] := by unfold encB; rw [if_pos h]
theorem encB_no {b : UInt8} (h : unres b ≠ true) : encB b = [37, hexB (b.toNat / 16), hexB (b.toNat % 16)] := by unfold encB; rw [if_neg h]

theorem encB_len (b : UInt8) : (encB b).length ≤ 3 := by unfold encB; split <;> simp
theorem encB_len_pos (b : UInt8) : 1 ≤ (encB b).length := by unfold encB; split <;> simp

theorem encL_nil : encL [] = [] := rfl
theorem encL_snoc (l : List UInt8) (b : UInt8) : encL (l ++ [b]) = encL l ++ encB b := by simp [encL]
theorem encL_append (a b : List UInt8) : encL (a ++ b) = encL a ++ encL b := by simp [encL]
theorem encL_cons (b : UInt8) (l : List UInt8) : encL (b :: l) = encB b ++ encL l := by simp [encL]

theorem encL_len (l : List UInt8) : (encL l).length ≤ 3 * l.length := by
  induction l with
  | nil => simp [encL]
  | cons b l ih =>
    have := encB_len b
    rw [encL_cons, List.length_append, List.length_cons]
    omega

theorem encL_take_succ (l : List UInt8) (k : Nat) (h : k < l.length) : encL (l.take (k + 1)) = encL (l.take k) ++ encB l[k] := by
  rw [List.take_succ_eq_append_getElem h, encL_snoc]

theorem encL_take_len (l : List UInt8) (k : Nat) : (encL (l.take k)).length ≤ 3 * l.length := by
  have h1 := encL_len (l.take k)
  have h2 : (l.take k).length ≤ l.length := by simp; omega
  omega

theorem encL_split (l : List UInt8) (k : Nat) (h : k < l.length) : encL l = encL (l.take k) ++ (encB l[k] ++ encL (l.drop (k + 1))) := by
  have e : l = l.take k ++ (l[k] :: l.drop (k + 1)) := by
    rw [← List.drop_eq_getElem_cons h, List.take_append_drop]
  conv => lhs; rw [e, encL_append, encL_cons]

end Go.Proofs.Ybulkcnke
