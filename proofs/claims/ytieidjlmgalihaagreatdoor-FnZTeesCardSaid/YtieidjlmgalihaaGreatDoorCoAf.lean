/- What cores write of entries: plain laws. -/
import Derived.Test.YtieidjlmgalihaaGreatDoorCoJ
import Derived.Test.YtieidjlmgalihaaGreatDoorCoS
set_option linter.all false
namespace Go.Proofs.YtieidjlmgalihaaGreatDoor
open Go.RowKit
set_option maxRecDepth 100000
/-- What a core writes of the first entries. -/
def written (c : Cor) (lv : Nat → Int) (F : Nat → List Fld) (n : Nat) : List Seen := (List.range n).flatMap fun i => noted (c.hits (lv i)) i (F i)
theorem written_succ (c : Cor) (lv : Nat → Int) (F : Nat → List Fld) (n : Nat) : written c lv F (n + 1) = written c lv F n ++ noted (c.hits (lv n)) n (F n) := by
  simp only [written]
  rw [List.range_succ, List.flatMap_append]
  simp
theorem written_len (c : Cor) (lv : Nat → Int) (F : Nat → List Fld) : ∀ n, (written c lv F n).length ≤ n * c.cnt
  | 0 => by simp [written]
  | n + 1 => by
    rw [written_succ, List.length_append, noted, List.length_map, Nat.succ_mul]
    have h1 := written_len c lv F n
    have h2 := c.hits_len (lv n)
    omega
theorem written_congr {c d : Cor} (h : ∀ l, c.hits l = d.hits l) (lv : Nat → Int) (F : Nat → List Fld) (n : Nat) : written c lv F n = written d lv F n := by
  simp only [written, h]
/-- All fields of a core's leaves, as far as entries come to them, are of a kind. -/
def Cor.AllF (p : Fld → Prop) (c : Cor) : Prop := ∀ (x : Int) (l : Lf), l ∈ c.hits x → ∀ f ∈ l.F, p f
theorem Cor.AllF.wth {p : Fld → Prop} {c : Cor} (h : c.AllF p) {fs : List Fld} (hf : ∀ f ∈ fs, p f) : (c.wth fs).AllF p := by
  intro x l hl f hfl
  rw [Cor.hits_wth] at hl
  obtain ⟨l0, h0, rfl⟩ := List.mem_map.1 hl
  rcases List.mem_append.1 hfl with h1 | h1
  · exact h x l0 h0 f h1
  · exact hf f h1
theorem Cor.AllF.lazy {p : Fld → Prop} {c : Cor} (h : c.AllF p) {fs : List Fld} (hf : ∀ f ∈ fs, p f) : (Cor.lazy c fs).AllF p := by
  intro x l hl f hfl
  simp only [Cor.hits] at hl
  obtain ⟨l0, h0, rfl⟩ := List.mem_map.1 hl
  rcases List.mem_append.1 hfl with h1 | h1
  · exact h x l0 h0 f h1
  · exact hf f h1
theorem Cor.AllF.inc {p : Fld → Prop} {c : Cor} (h : c.AllF p) (lv : Int) : (Cor.inc lv c).AllF p := by
  intro x l hl
  simp only [Cor.hits] at hl
  split at hl
  · exact h x l hl
  · cases hl
theorem AllF.tee {p : Fld → Prop} {l : List Cor} (h : ∀ (i : Nat) (c : Cor), l[i]? = some c → c.AllF p) : (teeOf l).AllF p := by
  intro x k hk
  rw [teeOf_hits] at hk
  obtain ⟨c, hc, hk⟩ := List.mem_flatMap.1 hk
  obtain ⟨i, hi⟩ := List.mem_iff_getElem?.1 hc
  exact h i c hi x k hk
theorem hits_sz : ∀ (c : Cor) (x : Int) (l : Lf), l ∈ c.hits x → l.F.length ≤ c.sz
  | .leaf m lv F, x, l, h => by
    simp only [Cor.hits] at h
    split at h
    · simp at h; rw [h]; exact Nat.le_refl _
    · cases h
  | .nop, x, l, h => by cases h
  | .tee n k, x, l, h => by
    simp only [Cor.hits] at h
    obtain ⟨i, hi, h⟩ := List.mem_flatMap.1 h
    exact Nat.le_trans (hits_sz (k i) x l h) (le_supN (fun i => (k i).sz) (List.mem_range.1 hi))
  | .inc lv c, x, l, h => by
    simp only [Cor.hits] at h
    split at h
    · exact hits_sz c x l h
    · cases h
  | .lazy c F, x, l, h => by
    simp only [Cor.hits] at h
    obtain ⟨l0, h0, rfl⟩ := List.mem_map.1 h
    have := hits_sz c x l0 h0
    simp only [Lf.add, List.length_append, Cor.sz]
    omega
theorem build_allF {kf : Nat} {w : World} : ∀ (dk : Nat) (a : Arg) (m m1 : Nat) (c : Cor), ArgAt kf dk w a → a.build m = (m1, some c) → c.AllF (FldOk kf w)
  | 0, _, _, _, _, h, _ => h.elim
  | _ + 1, .nil, _, _, _, h, _ => h.elim
  | dk + 1, .mk kind lev kA kn kc fA fn fc kid fld, m, m1, c, ⟨_, _, hk, hF, _⟩, h => by
    have hfl : ∀ f ∈ (List.range fn).map fld, FldOk kf w f := fun f hf => by
      obtain ⟨i, hi, rfl⟩ := List.mem_map.1 hf
      exact hF.2.2 i (List.mem_range.1 hi)
    simp only [Arg.build] at h
    by_cases h0 : kind = 0
    · rw [if_pos h0] at h
      simp at h
      rw [← h.2]
      intro x l hl f hf
      simp only [Cor.hits] at hl
      split at hl
      · simp at hl; rw [hl] at hf; cases hf
      · cases hl
    · rw [if_neg h0] at h
      by_cases h5 : kind = 5
      · rw [if_pos h5] at h
        simp at h
        rw [← h.2]
        intro x l hl
        cases hl
      · rw [if_neg h5] at h
        have key := fun (hall : ∀ i, i < kn → ∀ m m1 c, (kid i).build m = (m1, some c) → c.AllF (FldOk kf w)) => buildAll_lt (fun i => (kid i).build) (fun c => c.AllF (FldOk kf w)) kn hall kn (Nat.le_refl _) m
        have key := key (fun i hi m m1 c hc => build_allF dk (kid i) m m1 c (hk i hi) hc)
        split at h
        · simp at h
        · rename_i m2 l2 h2
          have hc := key m2 l2 h2
          by_cases h1 : kind = 1
          · rw [if_pos h1] at h
            simp at h
            rw [← h.2]
            exact AllF.tee hc
          · rw [if_neg h1] at h
            cases l2 with
            | nil => simp at h
            | cons c0 t =>
              have q := hc 0 c0 rfl
              simp only at h
              by_cases hk2 : kind = 2
              · rw [if_pos hk2] at h
                by_cases hi : incOk c0 (IntKind.i8.wrap lev) = true
                · rw [if_pos hi] at h
                  simp at h
                  rw [← h.2]
                  exact q.inc _
                · rw [if_neg hi] at h
                  simp at h
              · rw [if_neg hk2] at h
                by_cases hk3 : kind = 3
                · rw [if_pos hk3] at h
                  simp at h
                  rw [← h.2]
                  exact q.wth hfl
                · rw [if_neg hk3] at h
                  by_cases hk4 : kind = 4
                  · rw [if_pos hk4] at h
                    simp at h
                    rw [← h.2]
                    exact q.lazy hfl
                  · rw [if_neg hk4] at h
                    simp at h
where
  buildAll_lt (f : Nat → Nat → Nat × Option Cor) (p : Cor → Prop) (N : Nat) (h : ∀ i, i < N → ∀ m m1 c, f i m = (m1, some c) → p c) : ∀ n, n ≤ N → ∀ m m1 l, buildAll f n m = (m1, some l) → ∀ (i : Nat) (c : Cor), l[i]? = some c → p c
  | 0, _, m, m1, l, hb => by
    simp [buildAll] at hb
    rw [hb.2]
    intro i c hc
    simp at hc
  | n + 1, hn, m, m1, l, hb => by
    simp only [buildAll] at hb
    split at hb
    · simp at hb
    · rename_i m2 l2 h2
      split at hb
      · simp at hb
      · rename_i m3 c3 h3
        simp at hb
        have q2 := buildAll_lt f p N h n (by omega) m m2 l2 h2
        rw [← hb.2]
        intro i c hc
        by_cases hi : i < l2.length
        · rw [List.getElem?_append_left hi] at hc
          exact q2 i c hc
        · rw [List.getElem?_append_right (by omega)] at hc
          cases e : i - l2.length with
          | zero =>
            rw [e] at hc
            simp at hc
            subst hc
            exact h n (by omega) _ _ _ h3
          | succ q => rw [e] at hc; simp at hc
theorem written_allF {p : Fld → Prop} {c : Cor} (h : c.AllF p) (lv : Nat → Int) (F : Nat → List Fld) (n : Nat) (hF : ∀ i, i < n → ∀ f ∈ F i, p f) : ∀ s ∈ written c lv F n, ∀ f ∈ s.2.2, p f := by
  intro s hs f hf
  simp only [written] at hs
  obtain ⟨i, hi, hs⟩ := List.mem_flatMap.1 hs
  obtain ⟨l, hl, rfl⟩ := List.mem_map.1 hs
  rcases List.mem_append.1 hf with h1 | h1
  · exact h _ l hl f h1
  · exact hF i (List.mem_range.1 hi) f h1
theorem written_sz (c : Cor) (lv : Nat → Int) (F : Nat → List Fld) (n q : Nat) (hF : ∀ i, i < n → (F i).length ≤ q) : ∀ s ∈ written c lv F n, s.2.2.length ≤ c.sz + q := by
  intro s hs
  simp only [written] at hs
  obtain ⟨i, hi, hs⟩ := List.mem_flatMap.1 hs
  obtain ⟨l, hl, rfl⟩ := List.mem_map.1 hs
  have h1 := hits_sz c _ l hl
  have h2 := hF i (List.mem_range.1 hi)
  simp only [List.length_append]
  omega
/-- Alike, as the laws ask for it. -/
theorem Alike.refl (x : Option Cor) : Alike x x := by
  cases x with
  | none => exact .inl ⟨rfl, rfl⟩
  | some c => exact .inr ⟨c, c, rfl, rfl, fun _ => rfl⟩
end Go.Proofs.YtieidjlmgalihaaGreatDoor
namespace Go.Proofs.YtieidjlmgalihaaGreatDoor
open Go.RowKit
set_option maxRecDepth 100000
/-- A core that is given can be read, to a depth. -/
def CorAt (kf : Nat) : Nat → World → Arg → Prop
  | 0, _, _ => False
  | _ + 1, _, .nil => False
  | k + 1, w, .mk _ _ kA kn _ fA fn _ kid fld => kn ≤ maxLen ∧ RowAt w kA kn 4 (fun i => (kid i).arr) ∧ (∀ i, i < kn → CorAt kf k w (kid i)) ∧ FldsOk kf w fA fn fld
theorem CorAt.up {kf : Nat} {w : World} : ∀ {k : Nat} {a : Arg}, CorAt kf k w a → CorAt kf (k + 1) w a
  | 0, _, h => h.elim
  | _ + 1, .nil, h => h.elim
  | k + 1, .mk _ _ _ _ _ _ _ _ _ _, ⟨h1, h2, h3, h4⟩ => ⟨h1, h2, fun i hi => CorAt.up (h3 i hi), h4⟩
theorem CorAt.below {kf : Nat} {w w' : World} (hb : Below w.heap.size w w') : ∀ {k : Nat} {a : Arg}, CorAt kf k w a → CorAt kf k w' a
  | 0, _, h => h.elim
  | _ + 1, .nil, h => h.elim
  | k + 1, .mk _ _ _ _ _ _ _ _ _ _, ⟨h1, h2, h3, h4⟩ => ⟨h1, h2.below hb, fun i hi => (h3 i hi).below hb, h4.below hb⟩
/-- What ZCoreFine says of kids. -/
def Arg.Fine : Nat → Arg → Prop
  | 0, _ => False
  | _ + 1, .nil => False
  | d + 1, .mk _ _ _ kn _ _ _ _ kid _ => kn ≤ 6 ∧ ∀ i, i < kn → (kid i).Fine d
/-- What zCoreGreat says of fields. -/
def Arg.Small : Arg → Prop
  | .nil => True
  | .mk _ _ _ kn _ _ fn _ kid _ => fn ≤ 300 ∧ ∀ i, i < kn → (kid i).Small
theorem argAt_of {kf : Nat} {w : World} : ∀ {k d : Nat} {a : Arg}, CorAt kf k w a → a.Fine d → a.Small → ArgAt kf k w a
  | 0, _, _, h, _, _ => h.elim
  | _ + 1, _, .nil, h, _, _ => h.elim
  | _ + 1, 0, .mk _ _ _ _ _ _ _ _ _ _, _, h, _ => h.elim
  | k + 1, d + 1, .mk _ _ _ _ _ _ _ _ _ _, ⟨_, h2, h3, h4⟩, ⟨f1, f2⟩, ⟨s1, s2⟩ => ⟨by omega, h2, fun i hi => argAt_of (h3 i hi) (f2 i hi) (s2 i hi), h4, by omega⟩
theorem sumN_all {f : Nat → Nat} {q : Nat} : ∀ {n : Nat}, (∀ i, i < n → f i ≤ q) → sumN f n ≤ n * q
  | 0, _ => by simp [sumN]
  | n + 1, h => by
    rw [sumN, Nat.succ_mul]
    have h1 := sumN_all (f := f) (q := q) (n := n) (fun i hi => h i (by omega))
    have h2 := h n (by omega)
    omega
theorem fine_cnt : ∀ {d : Nat} {a : Arg}, a.Fine (d + 1) → a.cnt ≤ 6 ^ d
  | _, .nil, h => h.elim
  | 0, .mk kind _ _ kn _ _ _ _ kid _, ⟨h1, h2⟩ => by
    have h0 : kn = 0 := by
      cases kn with
      | zero => rfl
      | succ n => exact (h2 0 (by omega)).elim
    subst h0
    simp only [Arg.cnt]
    split
    · simp
    · simp [sumN]
  | d + 1, .mk kind _ _ kn _ _ _ _ kid _, ⟨h1, h2⟩ => by
    simp only [Arg.cnt]
    have hp : 1 ≤ 6 ^ d := Nat.one_le_pow _ _ (by omega)
    have h3 := sumN_all (f := fun i => (kid i).cnt) (q := 6 ^ d) (n := kn) (fun i hi => fine_cnt (h2 i hi))
    have h4 : kn * 6 ^ d ≤ 6 * 6 ^ d := Nat.mul_le_mul_right _ h1
    rw [Nat.pow_succ]
    split
    · omega
    · omega
theorem fine_sz : ∀ {d : Nat} {a : Arg}, a.Fine d → a.Small → a.sz ≤ 300 * d
  | 0, _, h, _ => h.elim
  | _ + 1, .nil, h, _ => h.elim
  | d + 1, .mk _ _ _ kn _ _ fn _ kid _, ⟨_, h2⟩, ⟨s1, s2⟩ => by
    simp only [Arg.sz]
    have := supN_le (fun i => (kid i).sz) (300 * d) (n := kn) (fun i hi => fine_sz (h2 i hi) (s2 i hi))
    omega
/-- A list of fields, as it lies in a list of such. -/
structure FRow where
  A : Option Addr
  n : Nat
  c : Nat
  g : Nat → Fld
instance : Inhabited FRow := ⟨⟨none, 0, 0, fun _ => default⟩⟩
abbrev FRow.arr (f : FRow) : Array Value := #[.slice f.A f.n f.c]
abbrev FRow.l (f : FRow) : List Fld := (List.range f.n).map f.g
end Go.Proofs.YtieidjlmgalihaaGreatDoor
