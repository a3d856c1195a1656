/- carried: fields as cores hand them on. -/
import Derived.Test.YtieidjlmgalihaaGreatDoorFld
namespace Go.Proofs.YtieidjlmgalihaaGreatDoor
open Go.RowKit
set_option maxRecDepth 100000
theorem info131 : (Tryz.prog.info? 131).map (fun i => (i.zero, i.size, i.bytes)) = some (some (.agg #[.string ⟨#[]⟩, .int .u8 0, .int .i64 0, .string ⟨#[]⟩, .nilIface]), 5, 64) := by kernel_rfl
/-- A field as a core carries it. -/
abbrev Fld.car (f : Fld) : List Value := [.string f.key, .int .u8 27, .int .i64 0, .string ⟨#[]⟩, .iface 39 (.agg f.arr)]
/-- The first n of these, as a core carries them. -/
def carr (g : Nat → Fld) : Nat → List Value
  | 0 => []
  | n + 1 => carr g n ++ (g n).car
theorem carr_length (g : Nat → Fld) : ∀ n, (carr g n).length = n * 5
  | 0 => rfl
  | n + 1 => by rw [carr, List.length_append, carr_length g n]; simp; omega
theorem carr_at (g : Nat → Fld) : ∀ (n i j : Nat), i < n → j < 5 → (carr g n)[i * 5 + j]? = (g i).car[j]?
  | 0, _, _, h, _ => by omega
  | n + 1, i, j, h, hj => by
    rw [carr]
    by_cases hi : i < n
    · rw [List.getElem?_append_left (by rw [carr_length]; omega)]
      exact carr_at g n i j hi hj
    · obtain rfl : i = n := by omega
      rw [List.getElem?_append_right (by rw [carr_length]; omega), carr_length]
      congr 1
      omega
theorem one_car (f : Fld) : ∀ u ∈ f.car.toArray.toList, u.oneCell' = true := by simp [Value.oneCell']
/-- What carried leaves. -/
def CarPost (n : Nat) (g : Nat → Fld) (w : World) (e : Ending) (w' : World) : Prop :=
  ∃ V, e = .returned V ∧ w'.ownsRow w.heap.size 131 5 V n (carr g n) ∧ Below w.heap.size w w' ∧ (n = 0 → V = .slice none 0 0)
set_option maxHeartbeats 2000000 in
theorem carried_any (w : World) (A : Option Addr) (n c : Nat) (g : Nat → Fld) (hn : n ≤ 100000) (hr : RowAt w A n 15 fun i => (g i).arr) : Calls Tryz.prog 78 #[.slice A n c] w (CarPost n g w) := by
  go_enter Tryz.func78, Tryz.ntmps78
  go_wp2_with fail
  go_loopw [3, 8] (fun V i wr => ∃ q : Nat, q ≤ n ∧ i = .int .i64 q ∧ Below w.heap.size w wr ∧ wr.ownsRow w.heap.size 131 5 V q (carr g q) ∧ (q = 0 → V = .slice none 0 0)) (fun _ i _ => n - (intOf i).toNat)
  case atStart => exact ⟨0, Nat.zero_le _, rfl, Below.refl _ _, World.ownsRow_nil _ _ _ _, fun _ => rfl⟩
  case round =>
    obtain ⟨q, hq, rfl, hb, hown, hz⟩ := hrel
    have HZ := Lib.hid hz
    clear hz
    by_cases hlt : q < n
    · obtain ⟨b, off, rfl, hs, hc⟩ := (hr.below hb) q hlt
      have hcs := Fld.cells hc
      have hcar : carr g (q + 1) = carr g q ++ (g q).car := rfl
      have HC := Lib.hid hcar
      clear hc hs hr hcar
      generalize g q = f at *
      obtain ⟨a0, a1, a2, a3, a4, a5, a6, a7, a8, a9, a10, a11, a12, a13, a14⟩ := hcs
      have hsz := hb.size
      go_wp2_with (at_builtin; go_must (refine wpList_append1 rfl (.tmp 12) (.tmp 18) 148 rfl w.heap.size 131 _ 5 64 info131 Tryz.underlying148 rfl (by decide) u3 q (carr g q) _ rfl (hown.alloc _) f.car.toArray _ rfl (by simp) rfl (one_car f) (by unfold maxLen; omega) (by omega) (by simp; omega) ?_; intro g1 cap w1 hown1 ho1 hlies hg1))
      go_roundw
      case rel =>
        have hb1 : Below w.heap.size (wr.alloc (.cells f.arr 39)) w1 := ho1.below (by simp; omega) (fun j hj e => by have := (hown.lt j e).1; omega)
        refine ⟨q + 1, by omega, by go_num, Below.trans (hb.alloc hsz _) hb1, ?_, fun h => by omega⟩
        rw [HC.out]
        simpa using hown1
      case measure => simp [intOf]; omega
    · have hqe : q = n := by omega
      subst hqe
      go_wp2_with fail
      go_ret
      exact ⟨_, rfl, hown, hb, HZ.out⟩
end Go.Proofs.YtieidjlmgalihaaGreatDoor
