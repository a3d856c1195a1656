/- What hooks make of an entry and its fields: plain lists. -/
import Derived.Test.YtieidjlmgalihaaGreatDoorHk2
import Derived.Test.YtieidjlmgalihaaGreatDoorSrc
namespace Go.Proofs.YtieidjlmgalihaaGreatDoor
open Go.RowKit
/-- An entry behind the first k hooks. -/
def hkEnt (hs : Nat → Hook) (e : Ent) : Nat → Ent
  | 0 => e
  | k + 1 => (hs k).on (hkEnt hs e k)
/-- So many fields as are kept by a hook. -/
def hkKept (hs : Nat → Hook) (k n : Nat) : Nat := if (hs k).drop then 0 else n
/-- How many fields there are behind the first k hooks. -/
def hkLen (hs : Nat → Hook) (n : Nat) : Nat → Nat
  | 0 => n
  | k + 1 => hkKept hs k (hkLen hs n k) + (hs k).an
/-- The fields behind the first k hooks. -/
def hkFld (hs : Nat → Hook) (gs : Nat → Nat → Fld) (n : Nat) (g : Nat → Fld) : Nat → Nat → Fld
  | 0 => g
  | k + 1 => fun i => if i < hkKept hs k (hkLen hs n k) then hkFld hs gs n g k i else gs k (i - hkKept hs k (hkLen hs n k))
theorem carr_congr {g g' : Nat → Fld} : ∀ {n : Nat}, (∀ i, i < n → g i = g' i) → carr g n = carr g' n
  | 0, _ => rfl
  | n + 1, h => by rw [carr, carr, carr_congr (n := n) (fun i hi => h i (by omega)), h n (by omega)]
theorem bare_congr {g g' : Nat → Fld} : ∀ {n : Nat}, (∀ i, i < n → g i = g' i) → bare g n = bare g' n
  | 0, _ => rfl
  | n + 1, h => by rw [bare, bare, bare_congr (n := n) (fun i hi => h i (by omega)), h n (by omega)]
theorem carr_join (g ga : Nat → Fld) (n0 : Nat) : ∀ a, carr (fun i => if i < n0 then g i else ga (i - n0)) (n0 + a) = carr g n0 ++ carr ga a
  | 0 => by
    rw [carr]
    simp only [Nat.add_zero, List.append_nil]
    exact carr_congr (fun i hi => by simp [hi])
  | a + 1 => by
    have e : n0 + (a + 1) = (n0 + a) + 1 := by omega
    rw [e, carr, carr_join g ga n0 a, carr, List.append_assoc]
    have h1 : ¬ n0 + a < n0 := by omega
    have h2 : n0 + a - n0 = a := by omega
    simp [h1, h2]
theorem bare_join (g ga : Nat → Fld) (n0 : Nat) : ∀ a, bare (fun i => if i < n0 then g i else ga (i - n0)) (n0 + a) = bare g n0 ++ bare ga a
  | 0 => by
    rw [bare]
    simp only [Nat.add_zero, List.append_nil]
    exact bare_congr (fun i hi => by simp [hi])
  | a + 1 => by
    have e : n0 + (a + 1) = (n0 + a) + 1 := by omega
    rw [e, bare, bare_join g ga n0 a, bare, List.append_assoc]
    have h1 : ¬ n0 + a < n0 := by omega
    have h2 : n0 + a - n0 = a := by omega
    simp [h1, h2]
/-- The carried cells, one hook on. -/
theorem hk_carr (hs : Nat → Hook) (gs : Nat → Nat → Fld) (n : Nat) (g : Nat → Fld) (k : Nat) : carr (hkFld hs gs n g (k + 1)) (hkLen hs n (k + 1)) = (if (hs k).drop then [] else carr (hkFld hs gs n g k) (hkLen hs n k)) ++ carr (gs k) (hs k).an := by
  show carr (fun i => if i < hkKept hs k (hkLen hs n k) then hkFld hs gs n g k i else gs k (i - hkKept hs k (hkLen hs n k))) (hkKept hs k (hkLen hs n k) + (hs k).an) = _
  rw [carr_join]
  unfold hkKept
  split <;> rfl
theorem hk_bare (hs : Nat → Hook) (gs : Nat → Nat → Fld) (n : Nat) (g : Nat → Fld) (k : Nat) : bare (hkFld hs gs n g (k + 1)) (hkLen hs n (k + 1)) = (if (hs k).drop then [] else bare (hkFld hs gs n g k) (hkLen hs n k)) ++ bare (gs k) (hs k).an := by
  show bare (fun i => if i < hkKept hs k (hkLen hs n k) then hkFld hs gs n g k i else gs k (i - hkKept hs k (hkLen hs n k))) (hkKept hs k (hkLen hs n k) + (hs k).an) = _
  rw [bare_join]
  unfold hkKept
  split <;> rfl
theorem hkLen_le (hs : Nat → Hook) (n : Nat) (h : ∀ k, (hs k).an ≤ 300) : ∀ k, hkLen hs n k ≤ n + k * 300
  | 0 => by simp [hkLen]
  | k + 1 => by
    have h1 := hkLen_le hs n h k
    have h2 := h k
    simp only [hkLen]
    unfold hkKept
    split <;> omega
theorem hkMsg_le (hs : Nat → Hook) (e : Ent) (h : ∀ k, (hs k).before.size ≤ 200) : ∀ k, (hkEnt hs e k).message.size ≤ e.message.size + k * 200
  | 0 => by simp [hkEnt]
  | k + 1 => by
    have h1 := hkMsg_le hs e h k
    have h2 := h k
    simp only [hkEnt, Hook.on, ByteArray.size_append]
    omega
end Go.Proofs.YtieidjlmgalihaaGreatDoor
