/- The head of a moment's text. -/
import Derived.Test.YtieidjlmgalihaaGreatDoorTbP
import Derived.Test.YtieidjlmgalihaaGreatDoorTbH
set_option linter.all false
namespace Go.Proofs.YtieidjlmgalihaaGreatDoor
open Go.RowKit Go.PlainAid
theorem at_dig {l : List UInt8} (a b : List UInt8) (p k x : Nat) (hl : l = a ++ (dig k x ++ b)) (hp : a.length = p) : ∀ i, i < k → bt ⟨l.toArray⟩ (p + i) = 48 + ((x / 10 ^ (k - 1 - i) % 10 : Nat) : Int) := by
  intro i hi
  rw [hl, ← hp]
  exact bt_dig a b k x i hi
theorem at_one {l : List UInt8} (a b : List UInt8) (p : Nat) (c : UInt8) (hl : l = a ++ (c :: b)) (hp : a.length = p) : bt ⟨l.toArray⟩ p = (c.toNat : Int) := by
  subst hl hp
  exact bt_list _ _ _ (by simp)
/-- The head, by numbers. -/
def headN (y m d h mi se : Nat) : List UInt8 := dig 4 y ++ [45] ++ dig 2 m ++ [45] ++ dig 2 d ++ [84] ++ dig 2 h ++ [58] ++ dig 2 mi ++ [58] ++ dig 2 se
theorem headN_len (y m d h mi se : Nat) : (headN y m d h mi se).length = 19 := by simp [headN, dig_length]
theorem headN_at (y m d h mi se : Nat) (r : List UInt8) :
    (∀ i, i < 4 → bt ⟨(headN y m d h mi se ++ r).toArray⟩ (0 + i) = 48 + ((y / 10 ^ (4 - 1 - i) % 10 : Nat) : Int)) ∧
    (∀ i, i < 2 → bt ⟨(headN y m d h mi se ++ r).toArray⟩ (5 + i) = 48 + ((m / 10 ^ (2 - 1 - i) % 10 : Nat) : Int)) ∧
    (∀ i, i < 2 → bt ⟨(headN y m d h mi se ++ r).toArray⟩ (8 + i) = 48 + ((d / 10 ^ (2 - 1 - i) % 10 : Nat) : Int)) ∧
    (∀ i, i < 2 → bt ⟨(headN y m d h mi se ++ r).toArray⟩ (11 + i) = 48 + ((h / 10 ^ (2 - 1 - i) % 10 : Nat) : Int)) ∧
    (∀ i, i < 2 → bt ⟨(headN y m d h mi se ++ r).toArray⟩ (14 + i) = 48 + ((mi / 10 ^ (2 - 1 - i) % 10 : Nat) : Int)) ∧
    (∀ i, i < 2 → bt ⟨(headN y m d h mi se ++ r).toArray⟩ (17 + i) = 48 + ((se / 10 ^ (2 - 1 - i) % 10 : Nat) : Int)) ∧
    bt ⟨(headN y m d h mi se ++ r).toArray⟩ 4 = 45 ∧ bt ⟨(headN y m d h mi se ++ r).toArray⟩ 7 = 45 ∧ bt ⟨(headN y m d h mi se ++ r).toArray⟩ 10 = 84 ∧ bt ⟨(headN y m d h mi se ++ r).toArray⟩ 13 = 58 ∧ bt ⟨(headN y m d h mi se ++ r).toArray⟩ 16 = 58 := by
  refine ⟨at_dig [] ([45] ++ dig 2 m ++ [45] ++ dig 2 d ++ [84] ++ dig 2 h ++ [58] ++ dig 2 mi ++ [58] ++ dig 2 se ++ r) 0 4 y (by simp [headN, List.append_assoc]) rfl,
    at_dig (dig 4 y ++ [45]) ([45] ++ dig 2 d ++ [84] ++ dig 2 h ++ [58] ++ dig 2 mi ++ [58] ++ dig 2 se ++ r) 5 2 m (by simp [headN, List.append_assoc]) (by simp [dig_length]),
    at_dig (dig 4 y ++ [45] ++ dig 2 m ++ [45]) ([84] ++ dig 2 h ++ [58] ++ dig 2 mi ++ [58] ++ dig 2 se ++ r) 8 2 d (by simp [headN, List.append_assoc]) (by simp [dig_length]),
    at_dig (dig 4 y ++ [45] ++ dig 2 m ++ [45] ++ dig 2 d ++ [84]) ([58] ++ dig 2 mi ++ [58] ++ dig 2 se ++ r) 11 2 h (by simp [headN, List.append_assoc]) (by simp [dig_length]),
    at_dig (dig 4 y ++ [45] ++ dig 2 m ++ [45] ++ dig 2 d ++ [84] ++ dig 2 h ++ [58]) ([58] ++ dig 2 se ++ r) 14 2 mi (by simp [headN, List.append_assoc]) (by simp [dig_length]),
    at_dig (dig 4 y ++ [45] ++ dig 2 m ++ [45] ++ dig 2 d ++ [84] ++ dig 2 h ++ [58] ++ dig 2 mi ++ [58]) r 17 2 se (by simp [headN, List.append_assoc]) (by simp [dig_length]),
    at_one (dig 4 y) (dig 2 m ++ [45] ++ dig 2 d ++ [84] ++ dig 2 h ++ [58] ++ dig 2 mi ++ [58] ++ dig 2 se ++ r) 4 45 (by simp [headN, List.append_assoc]) (by simp [dig_length]),
    at_one (dig 4 y ++ [45] ++ dig 2 m) (dig 2 d ++ [84] ++ dig 2 h ++ [58] ++ dig 2 mi ++ [58] ++ dig 2 se ++ r) 7 45 (by simp [headN, List.append_assoc]) (by simp [dig_length]),
    at_one (dig 4 y ++ [45] ++ dig 2 m ++ [45] ++ dig 2 d) (dig 2 h ++ [58] ++ dig 2 mi ++ [58] ++ dig 2 se ++ r) 10 84 (by simp [headN, List.append_assoc]) (by simp [dig_length]),
    at_one (dig 4 y ++ [45] ++ dig 2 m ++ [45] ++ dig 2 d ++ [84] ++ dig 2 h) (dig 2 mi ++ [58] ++ dig 2 se ++ r) 13 58 (by simp [headN, List.append_assoc]) (by simp [dig_length]),
    at_one (dig 4 y ++ [45] ++ dig 2 m ++ [45] ++ dig 2 d ++ [84] ++ dig 2 h ++ [58] ++ dig 2 mi) (dig 2 se ++ r) 16 58 (by simp [headN, List.append_assoc]) (by simp [dig_length])⟩
end Go.Proofs.YtieidjlmgalihaaGreatDoor
