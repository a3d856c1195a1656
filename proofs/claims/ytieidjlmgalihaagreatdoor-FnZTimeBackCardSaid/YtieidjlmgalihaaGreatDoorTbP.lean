/- A text's bytes, by its list. -/
import Derived.Test.YtieidjlmgalihaaGreatDoorTbN
set_option linter.all false
namespace Go.Proofs.YtieidjlmgalihaaGreatDoor
open Go.RowKit Go.PlainAid
theorem bt_list (l : List UInt8) (k : Nat) (c : UInt8) (h : l[k]? = some c) : bt ⟨l.toArray⟩ k = (c.toNat : Int) := by
  obtain ⟨hk, hc⟩ := List.getElem?_eq_some_iff.1 h
  have hs : k < (⟨l.toArray⟩ : ByteArray).size := by simpa [ByteArray.size] using hk
  rw [← get_bt _ k hs]
  have : (⟨l.toArray⟩ : ByteArray)[k]'hs = c := by rw [← hc]; rfl
  rw [this]
/-- Digits that lie at a place. -/
theorem bt_dig (a b : List UInt8) (k x : Nat) (i : Nat) (hi : i < k) : bt ⟨(a ++ (dig k x ++ b)).toArray⟩ (a.length + i) = 48 + ((x / 10 ^ (k - 1 - i) % 10 : Nat) : Int) := by
  rw [bt_list _ _ (UInt8.ofNat (48 + x / 10 ^ (k - 1 - i) % 10))]
  · rw [UInt8.toNat_ofNat']
    omega
  · rw [List.getElem?_append_right (by omega), List.getElem?_append_left (by rw [dig_length]; omega), show a.length + i - a.length = i by omega]
    exact dig_get k x i hi
end Go.Proofs.YtieidjlmgalihaaGreatDoor
