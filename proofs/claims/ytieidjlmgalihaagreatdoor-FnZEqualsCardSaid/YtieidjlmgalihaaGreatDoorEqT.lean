/- Fields as trees, and what of them is compared. -/
import Derived.Test.YtieidjlmgalihaaGreatDoorFld
set_option linter.all false
namespace Go.Proofs.YtieidjlmgalihaaGreatDoor
open Go.RowKit
set_option maxRecDepth 100000
/-- A field with its bytes and its items. -/
inductive FT where
  | mk (f : Fld) (bs : List UInt8) (kids : List FT)
instance : Inhabited FT := ⟨.mk default [] []⟩
def FT.f : FT → Fld | .mk f _ _ => f
def FT.bs : FT → List UInt8 | .mk _ b _ => b
def FT.kids : FT → List FT | .mk _ _ k => k
/-- What of two fields is compared, but for the items. -/
def flat (a b : Fld) (x y : List UInt8) : Bool :=
  a.kind == b.kind && a.key == b.key && a.width == b.width && a.int == b.int && a.uint == b.uint && a.re == b.re && a.im == b.im && a.text == b.text && x == y && (a.zero == b.zero && a.nanos == b.nanos && a.offset == b.offset && a.zone == b.zone) && a.fail == b.fail
mutual
def FT.same : FT → FT → Bool
  | .mk f x k, .mk g y l => flat f g x y && sameL k l
def sameL : List FT → List FT → Bool
  | [], [] => true
  | a :: xs, b :: ys => a.same b && sameL xs ys
  | _, _ => false
end
theorem sameL_len : ∀ {k l : List FT}, sameL k l = true → k.length = l.length
  | [], [], _ => rfl
  | a :: xs, b :: ys, h => by
    simp only [sameL, Bool.and_eq_true] at h
    simp [sameL_len h.2]
  | [], _ :: _, h => by simp [sameL] at h
  | _ :: _, [], h => by simp [sameL] at h
theorem sameL_drop (k l : List FT) (q : Nat) (hk : q < k.length) (hl : q < l.length) : sameL (k.drop q) (l.drop q) = ((k[q]).same l[q] && sameL (k.drop (q + 1)) (l.drop (q + 1))) := by
  rw [List.drop_eq_getElem_cons hk, List.drop_eq_getElem_cons hl]
  simp only [sameL]
theorem sameL_end (k l : List FT) (q : Nat) (hk : k.length = q) (hl : l.length = q) : sameL (k.drop q) (l.drop q) = true := by
  rw [List.drop_of_length_le (by omega), List.drop_of_length_le (by omega)]
  simp [sameL]

/-- What stands at place i of a list of fields. -/
def at_ (l : List FT) (i : Nat) : FT := l[i]?.getD default
theorem at_eq {l : List FT} {i : Nat} (h : i < l.length) : at_ l i = l[i] := by simp [at_, h]
mutual
/-- A field's bytes and items can be read. -/
def FT.ok (w : World) : FT → Prop
  | .mk f x k => f.bn ≤ maxLen ∧ x.length = f.bn ∧ ReadsB w f.bA x ∧ f.ilen ≤ maxLen ∧ k.length = f.ilen ∧ RowAt w f.iA f.ilen 15 (fun i => (at_ k i).f.arr) ∧ okL w k
def okL (w : World) : List FT → Prop
  | [] => True
  | t :: ts => t.ok w ∧ okL w ts
end
/-- A slice of fields that can be read. -/
def FtsOk (w : World) (A : Option Addr) (n : Nat) (l : List FT) : Prop := n ≤ maxLen ∧ l.length = n ∧ RowAt w A n 15 (fun i => (at_ l i).f.arr) ∧ okL w l
mutual
theorem FT.ok_below {w w' : World} (hb : Below w.heap.size w w') : ∀ t : FT, t.ok w → t.ok w'
  | .mk f x k, h => by
    simp only [FT.ok] at h ⊢
    obtain ⟨h1, h2, h3, h4, h5, h6, h7⟩ := h
    exact ⟨h1, h2, h3.below hb, h4, h5, h6.below hb, okL_below hb k h7⟩
theorem okL_below {w w' : World} (hb : Below w.heap.size w w') : ∀ l : List FT, okL w l → okL w' l
  | [], _ => trivial
  | t :: ts, h => by
    simp only [okL] at h ⊢
    exact ⟨FT.ok_below hb t h.1, okL_below hb ts h.2⟩
end
theorem FtsOk.below {w w' : World} {A : Option Addr} {n : Nat} {l : List FT} (h : FtsOk w A n l) (hb : Below w.heap.size w w') : FtsOk w' A n l := ⟨h.1, h.2.1, h.2.2.1.below hb, okL_below hb l h.2.2.2⟩
theorem okL_at {w : World} : ∀ {l : List FT}, okL w l → ∀ i, i < l.length → (at_ l i).ok w
  | [], _, i, h => by simp at h
  | t :: ts, h, 0, _ => by simp only [okL] at h; simpa [at_] using h.1
  | t :: ts, h, i + 1, hi => by
    simp only [okL] at h
    have := okL_at h.2 i (by simpa using hi)
    simpa [at_] using this
theorem okL_of {w : World} : ∀ {l : List FT}, (∀ t ∈ l, t.ok w) → okL w l
  | [], _ => trivial
  | t :: ts, h => by simp only [okL]; exact ⟨h t (by simp), okL_of (fun x hx => h x (by simp [hx]))⟩
/-- The items of a field that can be read. -/
theorem FT.ok_kids {w : World} {t : FT} (h : t.ok w) : FtsOk w t.f.iA t.f.ilen t.kids := by
  cases t with
  | mk f x k =>
    simp only [FT.ok] at h
    exact ⟨h.2.2.2.1, h.2.2.2.2.1, h.2.2.2.2.2.1, h.2.2.2.2.2.2⟩
theorem FT.ok_bytes {w : World} {t : FT} (h : t.ok w) : t.f.bn ≤ maxLen ∧ t.bs.length = t.f.bn ∧ ReadsB w t.f.bA t.bs := by
  cases t with
  | mk f x k =>
    simp only [FT.ok] at h
    exact ⟨h.1, h.2.1, h.2.2.1⟩
theorem kid_lt {l : List FT} {i : Nat} (h : i < l.length) : SizeOf.sizeOf (at_ l i).kids < SizeOf.sizeOf l := by
  rw [at_eq h]
  have h1 : SizeOf.sizeOf l[i] < SizeOf.sizeOf l := List.sizeOf_get _ _
  have h2 : ∀ t : FT, SizeOf.sizeOf t.kids < SizeOf.sizeOf t := by
    intro t
    cases t
    simp [FT.kids]
    omega
  have := h2 l[i]
  omega
theorem list_of {w : World} {n : Nat} {g : Nat → Fld} (h : ∀ i, i < n → ∃ t : FT, t.f = g i ∧ t.ok w) : ∃ l : List FT, l.length = n ∧ (∀ i, i < n → (at_ l i).f = g i) ∧ okL w l := by
  induction n with
  | zero => exact ⟨[], rfl, fun i hi => by omega, trivial⟩
  | succ n ih =>
    obtain ⟨l, h1, h2, h3⟩ := ih (fun i hi => h i (by omega))
    obtain ⟨t, ht, hk⟩ := h n (by omega)
    refine ⟨l ++ [t], by simp [h1], fun i hi => ?_, okL_of (fun x hx => ?_)⟩
    · by_cases hin : i < n
      · rw [← h2 i hin]
        simp [at_, List.getElem?_append_left (show i < l.length by omega)]
      · obtain rfl : i = n := by omega
        rw [← ht]
        subst h1
        simp [at_]
    · rw [List.mem_append] at hx
      rcases hx with hx | hx
      · obtain ⟨i, hi, rfl⟩ := List.mem_iff_getElem.1 hx
        rw [← at_eq hi]
        exact okL_at h3 i hi
      · simp at hx
        subst hx
        exact hk
theorem tree_of : ∀ {k : Nat} {w : World} {f : Fld}, FldOk k w f → ∃ t : FT, t.f = f ∧ t.ok w
  | 0, _, _, h => h.elim
  | k + 1, w, f, ⟨h1, ⟨x, h2, h3⟩, h4, g, h5, h6⟩ => by
    obtain ⟨l, e1, e2, e3⟩ := list_of (w := w) (n := f.ilen) (g := g) (fun i hi => tree_of (h6 i hi))
    refine ⟨.mk f x l, rfl, ?_⟩
    simp only [FT.ok]
    refine ⟨h1, h2, h3, h4, e1, fun i hi => ?_, e3⟩
    have := h5 i hi
    simp only [e2 i hi]
    exact this
theorem trees_of {k : Nat} {w : World} {A : Option Addr} {n : Nat} {g : Nat → Fld} (h : FldsOk k w A n g) : ∃ l : List FT, FtsOk w A n l ∧ ∀ i, i < n → (at_ l i).f = g i := by
  obtain ⟨l, e1, e2, e3⟩ := list_of (w := w) (n := n) (g := g) (fun i hi => tree_of (h.2.2 i hi))
  refine ⟨l, ⟨h.1, e1, fun i hi => ?_, e3⟩, e2⟩
  have := h.2.1 i hi
  simp only [e2 i hi]
  exact this
end Go.Proofs.YtieidjlmgalihaaGreatDoor
