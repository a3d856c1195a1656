/- The laws' own makers of cores, and zBoth. -/
import Derived.Test.YtieidjlmgalihaaGreatDoorCoAj
set_option linter.all false
namespace Go.Proofs.YtieidjlmgalihaaGreatDoor
open Go.RowKit
set_option maxRecDepth 100000
theorem tee_fn (w : World) (A : Option Addr) (n c : Nat) : Calls Tryz.prog 39 #[.slice A n c] w fun e w' => e = .returned (.agg #[.int .i64 1, .int .i64 0, .slice A n c, .slice none 0 0]) ∧ Below w.heap.size w w' := by
  have h1 := (Blk.new w 69 #[.int .i64 1, .int .i64 0, .slice A n c, .slice none 0 0]).cell
  go_enter Tryz.func39, Tryz.ntmps39
  go_wp2
  refine bodyPost_ret (v := .agg #[.int .i64 1, .int .i64 0, .slice A n c, .slice none 0 0]) (by simp [results, Tryz.results39, go_sem, h1]) rfl ?_
  exact ⟨rfl, by go_grown⟩
theorem inc_fn (w : World) (kind lev n : Int) (kA fA : Option Addr) (kn kc fn fc : Nat) : Calls Tryz.prog 36 #[.agg #[.int .i64 kind, .int .i64 lev, .slice kA kn kc, .slice fA fn fc], .int .i64 n] w fun e w' => ∃ b, e = .returned (.agg #[.int .i64 2, .int .i64 n, .slice (some ⟨b, 0, none⟩) 1 1, .slice none 0 0]) ∧ Blk w' b 69 #[.int .i64 kind, .int .i64 lev, .slice kA kn kc, .slice fA fn fc] ∧ Below w.heap.size w w' := by
  have h1 := ((Blk.new_at (w.alloc (.cells #[.int .i64 kind, .int .i64 lev, .slice kA kn kc, .slice fA fn fc] 69)) 69 #[.int .i64 2, .int .i64 n, .slice (some ⟨w.heap.size + 1 + 1, 0, none⟩) 1 1, .slice none 0 0] (w.heap.size + 1) (by simp)).alloc (.cells #[.int .i64 kind, .int .i64 lev, .slice kA kn kc, .slice fA fn fc] 69)).cell
  go_enter Tryz.func36, Tryz.ntmps36
  go_wp2
  refine bodyPost_ret (v := .agg #[.int .i64 2, .int .i64 n, .slice (some ⟨w.heap.size + 1 + 1, 0, none⟩) 1 1, .slice none 0 0]) (by simp [results, Tryz.results36, go_sem, h1]) rfl ?_
  exact ⟨_, rfl, Blk.new_at _ 69 _ _ (by simp), by go_grown⟩
theorem with_fn (w : World) (k kind lev : Int) (kA fA gA : Option Addr) (kn kc fn fc gn gc : Nat) : Calls Tryz.prog 40 #[.int .i64 k, .agg #[.int .i64 kind, .int .i64 lev, .slice kA kn kc, .slice fA fn fc], .slice gA gn gc] w fun e w' => ∃ b, e = .returned (.agg #[.int .i64 k, .int .i64 0, .slice (some ⟨b, 0, none⟩) 1 1, .slice gA gn gc]) ∧ Blk w' b 69 #[.int .i64 kind, .int .i64 lev, .slice kA kn kc, .slice fA fn fc] ∧ Below w.heap.size w w' := by
  have h1 := ((Blk.new_at (w.alloc (.cells #[.int .i64 kind, .int .i64 lev, .slice kA kn kc, .slice fA fn fc] 69)) 69 #[.int .i64 k, .int .i64 0, .slice (some ⟨w.heap.size + 1 + 1, 0, none⟩) 1 1, .slice gA gn gc] (w.heap.size + 1) (by simp)).alloc (.cells #[.int .i64 kind, .int .i64 lev, .slice kA kn kc, .slice fA fn fc] 69)).cell
  go_enter Tryz.func40, Tryz.ntmps40
  go_wp2
  refine bodyPost_ret (v := .agg #[.int .i64 k, .int .i64 0, .slice (some ⟨w.heap.size + 1 + 1, 0, none⟩) 1 1, .slice gA gn gc]) (by simp [results, Tryz.results40, go_sem, h1]) rfl ?_
  exact ⟨_, rfl, Blk.new_at _ 69 _ _ (by simp), by go_grown⟩
/-- Lists of fields, one behind the other. -/
def bothL (fs : Nat → FRow) (k : Nat) : List Fld := (List.range k).flatMap fun i => (fs i).l
theorem bothL_succ (fs : Nat → FRow) (k : Nat) : bothL fs (k + 1) = bothL fs k ++ (fs k).l := by
  simp only [bothL]
  rw [List.range_succ, List.flatMap_append]
  simp
theorem bothL_le (fs : Nat → FRow) (q : Nat) : ∀ k, (∀ i, i < k → (fs i).n ≤ q) → (bothL fs k).length ≤ k * q
  | 0, _ => by simp [bothL]
  | k + 1, h => by
    have h1 := bothL_le fs q k (fun i hi => h i (by omega))
    have h2 := h k (by omega)
    rw [bothL_succ, List.length_append, Nat.succ_mul]
    simp only [FRow.l, List.length_map, List.length_range]
    omega
theorem own_list {w : World} {B : Nat} {V : Value} {L : List Fld} (h : w.ownsRow B 39 15 V L.length (barL L)) : ∃ A c, V = .slice A L.length c ∧ RowAt w A L.length 15 fun i => (L.getD i default).arr := by
  rw [← barL_get] at h
  exact own_flds h
theorem own_far {w : World} {B : Nat} {e : TypeId} {size n : Nat} {A : Option Addr} {m c : Nat} {xs : List Value} (h : w.ownsRow B e size (.slice A m c) n xs) : ∀ b off, A = some ⟨b, off, none⟩ → B ≤ b := by
  intro b off hA
  exact (h.lt b (by rw [hA]; rfl)).1
def BothPost (fs : Nat → FRow) (m : Nat) (w : World) (e : Ending) (w' : World) : Prop := ∃ A c, e = .returned (.slice A (bothL fs m).length c) ∧ RowAt w' A (bothL fs m).length 15 (fun i => ((bothL fs m).getD i default).arr) ∧ (∀ b off, A = some ⟨b, off, none⟩ → w.heap.size ≤ b) ∧ Below w.heap.size w w'
set_option maxHeartbeats 4000000 in
theorem both_any (w : World) (A : Option Addr) (m c : Nat) (fs : Nat → FRow) (hm : m ≤ 10) (hr : RowAt w A m 1 fun i => (fs i).arr) (hf : ∀ i, i < m → RowAt w (fs i).A (fs i).n 15 (fun j => ((fs i).g j).arr) ∧ (fs i).n ≤ 1000) :
    Calls Tryz.prog 41 #[.slice A m c] w (BothPost fs m w) := by
  have H := Lib.hid (And.intro hr hf)
  clear hr hf
  go_enter Tryz.func41, Tryz.ntmps41
  go_wp2_with fail
  go_loopw [3, 4] (fun V i wr => ∃ k : Nat, k ≤ m ∧ i = .int .i64 k ∧ Below w.heap.size w wr ∧ wr.ownsRow w.heap.size 39 15 V (bothL fs k).length (barL (bothL fs k))) (fun _ i _ => m - (intOf i).toNat)
  case atStart => exact ⟨0, Nat.zero_le _, rfl, Below.refl _ _, World.ownsRow_nil _ _ _ _⟩
  case round =>
    obtain ⟨k, hk, rfl, hb, hown⟩ := hrel
    obtain ⟨va, vc, rfl⟩ := own_len hown
    by_cases hlt : k < m
    · obtain ⟨b, off, rfl, hs, hc⟩ := (H.out.1.below hb) k hlt
      have hc0 := hc 0 (by omega)
      simp only [Nat.mul_one, Nat.add_zero, List.getElem?_toArray, List.getElem?_cons_zero] at hc0
      have hle := bothL_le fs 1000 k (fun i hi => (H.out.2 i (by omega)).2)
      have hrow := (H.out.2 k hlt).1.below hb
      have hfn := (H.out.2 k hlt).2
      have hsz := hb.size
      have P := Lib.hid (And.intro hb (And.intro hown hrow))
      clear hb hown hrow hc hs
      go_wp2_with (at_builtin; go_must (refine wpList_append_fld rfl (.tmp 11) (.tmp 15) rfl _ w.heap.size (.slice va (bothL fs k).length vc) (bothL fs k).length (barL (bothL fs k)) rfl P.out.2.1 (fs k).A (fs k).n (fs k).c (fs k).g rfl P.out.2.2 (by omega) (by omega) ?_; intro V w1 hown1 ho1))
      go_roundw
      case rel =>
        refine ⟨k + 1, by omega, by go_num, P.out.1.trans (ho1.below hsz (fun j hj e => by have := (P.out.2.1.lt j e).1; omega)), ?_⟩
        have e1 : (bothL fs (k + 1)).length = (bothL fs k).length + (fs k).n := by rw [bothL_succ, List.length_append]; simp [FRow.l]
        have e2 : barL (bothL fs (k + 1)) = barL (bothL fs k) ++ bare (fs k).g (fs k).n := by rw [bothL_succ, barL_append, FRow.l, barL_of]
        rw [e1, e2]
        exact hown1
      case measure => simp [intOf]; omega
    · obtain rfl : k = m := by omega
      go_wp2_with fail
      go_ret
      obtain ⟨A', c', hV, hrow⟩ := own_list hown
      injection hV with h1 _ h3
      subst h1 h3
      exact ⟨_, _, rfl, hrow, own_far hown, hb⟩
end Go.Proofs.YtieidjlmgalihaaGreatDoor
