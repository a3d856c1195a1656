/- zSameWritten: what is compared. -/
import Derived.Test.YtieidjlmgalihaaGreatDoorCoAi
import Derived.Test.YtieidjlmgalihaaGreatDoorSam
set_option linter.all false
namespace Go.Proofs.YtieidjlmgalihaaGreatDoor
open Go.RowKit
set_option maxRecDepth 100000
theorem own_cell {w : World} {B : Nat} {e : TypeId} {size n : Nat} {v : Value} {xs : List Value} (h : w.ownsRow B e size v n xs) : (n = 0 ∧ ∃ a c, v = .slice a 0 c) ∨ ∃ g cap, v = .slice (some ⟨g, 0, none⟩) n cap ∧ g < w.heap.size ∧ ∀ j, j < n * size → w.cell? ⟨g, j, none⟩ = xs[j]? := by
  rcases h.2 with ⟨rfl, hn⟩ | ⟨g, cap, cur, rfl, hb, hg, h1, h2, h3, htk⟩
  · exact .inl ⟨hn, _, _, rfl⟩
  · refine .inr ⟨g, cap, rfl, (Array.getElem?_eq_some_iff.1 hg).1, fun j hj => ?_⟩
    rw [cell_of_row w g j _ _ _ hg, ← htk, List.getElem?_take, if_pos hj]
    simp
theorem seen_at : ∀ (L : List Seen) (Vs : List Value) (i : Nat) (l : Seen) (v : Value), L[i]? = some l → Vs[i]? = some v → (seenVals L Vs)[i * 3]? = some (.int .i64 l.1) ∧ (seenVals L Vs)[i * 3 + 1]? = some (.int .i64 l.2.1) ∧ (seenVals L Vs)[i * 3 + 2]? = some v
  | [], _, _, _, _, h, _ => by simp at h
  | _ :: _, [], _, _, _, _, h => by simp at h
  | l0 :: L, v0 :: Vs, 0, l, v, h1, h2 => by
    simp at h1 h2
    subst h1 h2
    simp [seenVals]
  | l0 :: L, v0 :: Vs, i + 1, l, v, h1, h2 => by
    simp only [List.getElem?_cons_succ] at h1 h2
    obtain ⟨q1, q2, q3⟩ := seen_at L Vs i l v h1 h2
    have e : seenVals (l0 :: L) (v0 :: Vs) = .int .i64 l0.1 :: .int .i64 l0.2.1 :: v0 :: seenVals L Vs := by simp [seenVals]
    rw [e]
    have e1 : (i + 1) * 3 = i * 3 + 1 + 1 + 1 := by omega
    have e2 : (i + 1) * 3 + 1 = i * 3 + 1 + 1 + 1 + 1 := by omega
    have e3 : (i + 1) * 3 + 2 = i * 3 + 2 + 1 + 1 + 1 := by omega
    rw [e3, e2, e1]
    simp only [List.getElem?_cons_succ]
    exact ⟨q1, q2, q3⟩
/-- One thing that is noted, to read. -/
theorem seen_read {kf B : Nat} {w0 w W : World} {V : Value} {xs : List Value} {L : List Seen} {k : Nat} (hown : w.ownsRow B 196 3 V L.length xs) (hs : SeenOf B w xs L) (hb : Below w.heap.size w W) (hk : k < L.length) (h0 : Below w0.heap.size w0 W)
    (hall : ∀ s ∈ L, s.2.2.length ≤ 100000 ∧ ∀ f ∈ s.2.2, FldOk kf w0 f) :
    ∃ g cap A c l, V = .slice (some ⟨g, 0, none⟩) L.length cap ∧ L[k]? = some l ∧ W.cell? ⟨g, k * 3, none⟩ = some (.int .i64 l.1) ∧ W.cell? ⟨g, k * 3 + 1, none⟩ = some (.int .i64 l.2.1) ∧ W.cell? ⟨g, k * 3 + 2, none⟩ = some (.slice A l.2.2.length c) ∧ g < W.heap.size ∧ FldsOk kf W A l.2.2.length (fun i => l.2.2.getD i default) := by
  rcases own_cell hown with ⟨h, _⟩ | ⟨g, cap, hV, hg, hc⟩
  · omega
  obtain ⟨Vs, hl, hx, hrow⟩ := hs
  obtain ⟨l, hl1⟩ : ∃ l, L[k]? = some l := ⟨_, List.getElem?_eq_getElem hk⟩
  obtain ⟨v, hv1⟩ : ∃ v, Vs[k]? = some v := ⟨_, List.getElem?_eq_getElem (by omega)⟩
  obtain ⟨q1, q2, q3⟩ := seen_at L Vs k l v hl1 hv1
  have hr := hrow k l v hl1 hv1
  rw [← barL_get] at hr
  obtain ⟨A, c, rfl, hrow⟩ := own_flds hr
  rw [hx] at hc
  have up : ∀ j, W.cell? ⟨g, j, none⟩ = w.cell? ⟨g, j, none⟩ := fun j => hb.cell (p := ⟨g, j, none⟩) hg
  obtain ⟨hlen, hfo⟩ := hall l (List.mem_iff_getElem?.2 ⟨k, hl1⟩)
  refine ⟨g, cap, A, c, l, hV, hl1, ?_, ?_, ?_, Nat.lt_of_lt_of_le hg hb.size, ⟨by unfold maxLen; omega, hrow.below hb, fun i hi => ?_⟩⟩
  · rw [up, hc _ (by omega), q1]
  · rw [up, hc _ (by omega), q2]
  · rw [up, hc _ (by omega), q3]
  · refine (hfo _ ?_).below h0
    show l.2.2.getD i default ∈ l.2.2
    have : l.2.2.getD i default = l.2.2[i] := by simp [List.getD, List.getElem?_eq_getElem hi]
    rw [this]
    exact List.getElem_mem hi
end Go.Proofs.YtieidjlmgalihaaGreatDoor
