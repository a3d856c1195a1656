/- Fields of all kinds: what is made of them; their types; what is said of two. -/
import Derived.Test.YtieidjlmgalihaaGreatDoorEqS
import Derived.Test.YtieidjlmgalihaaGreatDoorEqC
import Derived.Test.YtieidjlmgalihaaGreatDoorEqO
import Derived.Test.YtieidjlmgalihaaGreatDoorFine
import Derived.Test.YtieidjlmgalihaaGreatDoorCpx
set_option linter.all false
namespace Go.Proofs.YtieidjlmgalihaaGreatDoor
open Go.RowKit
set_option maxRecDepth 100000
theorem Made.mono {w : World} {f : Fld} {P Q : World → Value → Prop} (h : Made w f P) (hpq : ∀ X v, P X v → Q X v) : Made w f Q :=
  fun W hW => (h W hW).mono fun _ W' ⟨raw, h1, h2, h3⟩ => ⟨raw, h1, h2, fun W2 hW2 => (h3 W2 hW2).mono fun _ W3 ⟨pub, h4, h5, h6⟩ => ⟨pub, h4, h5, hpq _ _ h6⟩⟩
/-- The bounds of a field's own parts. -/
structure Rng (f : Fld) : Prop where
  u0 : 0 ≤ f.uint
  u1 : f.uint < 18446744073709551616
  r0 : 0 ≤ f.re
  r1 : f.re < 18446744073709551616
  i0 : 0 ≤ f.im
  i1 : f.im < 18446744073709551616
  n0 : -9223372036854775808 ≤ f.nanos
  n1 : f.nanos ≤ 9223372036854775807
  bl : f.bn ≤ 2147483647
  il : f.ilen ≤ 2147483647
/-- The package's type of a field. -/
def kT (f : Fld) : Int :=
  if f.kind = 0 then 27 else if f.kind = 1 then 4
  else if f.kind = 2 then (if f.width = 8 then 14 else if f.width = 16 then 13 else if f.width = 32 then 12 else 11)
  else if f.kind = 3 then (if f.width = 8 then 21 else if f.width = 16 then 20 else if f.width = 32 then 19 else 18)
  else if f.kind = 4 then 22 else if f.kind = 5 then (if f.width = 32 then 10 else 9) else if f.kind = 6 then (if f.width = 32 then 7 else 6)
  else if f.kind = 7 then 15 else if f.kind = 8 then 5 else if f.kind = 9 then 3 else if f.kind = 10 then 8 else if f.kind = 11 then 17
  else if f.kind = 12 then 26 else if f.kind = 13 then 25 else if f.kind = 14 then 24 else if f.kind = 15 then 1 else if f.kind = 16 then 2 else if f.kind = 17 then 28 else 1
/-- The number that a field holds. -/
def kN (f : Fld) : Int :=
  if f.kind = 1 then (if f.int = 0 then 0 else 1) else if f.kind = 2 then f.int else if f.kind = 3 then wrap64 f.uint else if f.kind = 4 then wrap64 f.uint
  else if f.kind = 5 then (if f.width = 32 then f.re else wrap64 f.re) else if f.kind = 10 then f.int else 0
/-- The text that a field holds. -/
def kS (f : Fld) : ByteArray := if f.kind = 7 then f.text else ⟨#[]⟩
/-- Kinds whose fields hold a number or a text alone. -/
def NilK (f : Fld) : Prop := f.kind = 0 ∨ f.kind = 1 ∨ f.kind = 2 ∨ f.kind = 3 ∨ f.kind = 4 ∨ f.kind = 5 ∨ f.kind = 7 ∨ f.kind = 10 ∨ f.kind = 14
/-- A type's kind and width. -/
def un (T : Int) : Int × Int :=
  if T = 27 then (0, 0) else if T = 4 then (1, 0) else if T = 14 then (2, 8) else if T = 13 then (2, 16) else if T = 12 then (2, 32) else if T = 11 then (2, 64)
  else if T = 21 then (3, 8) else if T = 20 then (3, 16) else if T = 19 then (3, 32) else if T = 18 then (3, 64) else if T = 22 then (4, 0) else if T = 10 then (5, 32) else if T = 9 then (5, 64)
  else if T = 7 then (6, 32) else if T = 6 then (6, 64) else if T = 15 then (7, 0) else if T = 5 then (8, 0) else if T = 3 then (9, 0) else if T = 8 then (10, 0) else if T = 17 then (11, 0)
  else if T = 26 then (12, 0) else if T = 25 then (13, 0) else if T = 24 then (14, 0) else if T = 1 then (15, 0) else if T = 2 then (16, 0) else (17, 0)
/-- Kinds that have widths. -/
def wide (f : Fld) : Bool := f.kind == 2 || f.kind == 3 || f.kind == 5 || f.kind == 6
theorem kinds {f : Fld} (F : Fine1 f) : f.kind = 0 ∨ f.kind = 1 ∨ f.kind = 2 ∨ f.kind = 3 ∨ f.kind = 4 ∨ f.kind = 5 ∨ f.kind = 6 ∨ f.kind = 7 ∨ f.kind = 8 ∨ f.kind = 9 ∨ f.kind = 10 ∨ f.kind = 11 ∨ f.kind = 12 ∨ f.kind = 13 ∨ f.kind = 14 ∨ f.kind = 15 ∨ f.kind = 16 ∨ f.kind = 17 ∨ f.kind = 18 := by
  have := F.lo
  have := F.hi
  omega
theorem un_kT {f : Fld} (F : Fine1 f) (h : f.kind ≠ 18) : un (kT f) = (f.kind, if wide f then f.width else 0) := by
  have hn := F.num
  have hf := F.flo
  rcases kinds F with hk | hk | hk | hk | hk | hk | hk | hk | hk | hk | hk | hk | hk | hk | hk | hk | hk | hk | hk
  case inr.inr.inl =>
    rcases hn (Or.inl hk) with e | e | e | e <;> simp [un, kT, wide, hk, e]
  case inr.inr.inr.inl =>
    rcases hn (Or.inr hk) with e | e | e | e <;> simp [un, kT, wide, hk, e]
  case inr.inr.inr.inr.inr.inl =>
    rcases hf (Or.inl hk) with e | ⟨e, _⟩ <;> simp [un, kT, wide, hk, e]
  case inr.inr.inr.inr.inr.inr.inl =>
    rcases hf (Or.inr hk) with e | ⟨e, _⟩ <;> simp [un, kT, wide, hk, e]
  all_goals first
    | exact absurd hk h
    | simp [un, kT, wide, hk]
/-- Fields of one type: of one kind and width, but for lists and lists of errors. -/
theorem kT_eq {f g : Fld} (F : Fine1 f) (G : Fine1 g) (h : kT f = kT g) : (f.kind = g.kind ∧ (wide f = true → f.width = g.width)) ∨ (f.kind = 15 ∧ g.kind = 18) ∨ (f.kind = 18 ∧ g.kind = 15) := by
  by_cases h1 : f.kind = 18
  · by_cases h2 : g.kind = 18
    · exact Or.inl ⟨by omega, fun hw => by simp [wide, h1] at hw⟩
    · have h3 := un_kT G h2
      rw [← h] at h3
      have e1 : un (kT f) = (15, 0) := by simp [un, kT, h1]
      rw [e1] at h3
      injection h3 with h4 h5
      exact Or.inr (Or.inr ⟨h1, h4.symm⟩)
  · have h3 := un_kT F h1
    by_cases h2 : g.kind = 18
    · have e1 : un (kT g) = (15, 0) := by simp [un, kT, h2]
      rw [h, e1] at h3
      injection h3 with h4 h5
      exact Or.inr (Or.inl ⟨h4.symm, h2⟩)
    · have h4 := un_kT G h2
      rw [← h, h3] at h4
      injection h4 with h5 h6
      refine Or.inl ⟨h5, fun hw => ?_⟩
      have hw' : wide g = true := by simpa [wide, h5] using hw
      rw [hw, hw'] at h6
      simpa using h6
theorem kT_key {f : Fld} {T n : Int} {s : ByteArray} (e : kT f = T ∧ kN f = n ∧ kS f = s) (w : World) (H : Made w f (fun _ v => v = .agg (pubArr f.key T n s .nilIface))) : Made w f (fun _ v => v = .agg (pubArr f.key (kT f) (kN f) (kS f) .nilIface)) := by
  rw [e.1, e.2.1, e.2.2]
  exact H
/-- Fields that hold a number or a text alone. -/
theorem made_plain (w : World) (f : Fld) (F : Fine1 f) (R : Rng f) (h : NilK f) : Made w f (fun _ v => v = .agg (pubArr f.key (kT f) (kN f) (kS f) .nilIface)) := by
  have hn := F.num
  have hf := F.flo
  have r0 := R.r0
  rcases h with hk | hk | hk | hk | hk | hk | hk | hk | hk
  · exact kT_key (T := 27) (n := 0) (s := ⟨#[]⟩) (by simp [kT, kN, kS, hk]) w (made_nil w f 27 0 ⟨#[]⟩ (fun W _ => of_over_nil W f (Or.inl hk) 27 (fun W' _ => over_skip W' f.key f hk)))
  · by_cases e : f.int = 0
    · exact kT_key (T := 4) (n := 0) (s := ⟨#[]⟩) (by simp [kT, kN, kS, hk, e]) w (made_nil w f 4 0 ⟨#[]⟩ (fun W _ => of_bool0 W f hk e))
    · exact kT_key (T := 4) (n := 1) (s := ⟨#[]⟩) (by simp [kT, kN, kS, hk, e]) w (made_nil w f 4 1 ⟨#[]⟩ (fun W _ => of_bool1 W f hk (by simpa using e)))
  · rcases hn (Or.inl hk) with e | e | e | e
    · exact kT_key (T := 14) (n := f.int) (s := ⟨#[]⟩) (by simp [kT, kN, kS, hk, e]) w (made_nil w f 14 f.int ⟨#[]⟩ (fun W _ => of_int8 W f hk e))
    · exact kT_key (T := 13) (n := f.int) (s := ⟨#[]⟩) (by simp [kT, kN, kS, hk, e]) w (made_nil w f 13 f.int ⟨#[]⟩ (fun W _ => of_int16 W f hk e))
    · exact kT_key (T := 12) (n := f.int) (s := ⟨#[]⟩) (by simp [kT, kN, kS, hk, e]) w (made_nil w f 12 f.int ⟨#[]⟩ (fun W _ => of_int32 W f hk e))
    · exact kT_key (T := 11) (n := f.int) (s := ⟨#[]⟩) (by simp [kT, kN, kS, hk, e]) w (made_nil w f 11 f.int ⟨#[]⟩ (fun W _ => of_int64 W f hk e))
  · rcases hn (Or.inr hk) with e | e | e | e
    · exact kT_key (T := 21) (n := (wrap64 f.uint)) (s := ⟨#[]⟩) (by simp [kT, kN, kS, hk, e]) w (made_nil w f 21 (wrap64 f.uint) ⟨#[]⟩ (fun W _ => of_uint8 W f hk e))
    · exact kT_key (T := 20) (n := (wrap64 f.uint)) (s := ⟨#[]⟩) (by simp [kT, kN, kS, hk, e]) w (made_nil w f 20 (wrap64 f.uint) ⟨#[]⟩ (fun W _ => of_uint16 W f hk e))
    · exact kT_key (T := 19) (n := (wrap64 f.uint)) (s := ⟨#[]⟩) (by simp [kT, kN, kS, hk, e]) w (made_nil w f 19 (wrap64 f.uint) ⟨#[]⟩ (fun W _ => of_uint32 W f hk e))
    · exact kT_key (T := 18) (n := (wrap64 f.uint)) (s := ⟨#[]⟩) (by simp [kT, kN, kS, hk, e]) w (made_nil w f 18 (wrap64 f.uint) ⟨#[]⟩ (fun W _ => of_uint64 W f hk e))
  · exact kT_key (T := 22) (n := (wrap64 f.uint)) (s := ⟨#[]⟩) (by simp [kT, kN, kS, hk]) w (made_nil w f 22 (wrap64 f.uint) ⟨#[]⟩ (fun W _ => of_uptr W f hk))
  · rcases hf (Or.inl hk) with e | ⟨e, e2, _⟩
    · exact kT_key (T := 9) (n := (wrap64 f.re)) (s := ⟨#[]⟩) (by simp [kT, kN, kS, hk, e]) w (made_nil w f 9 (wrap64 f.re) ⟨#[]⟩ (fun W _ => of_float64 W f hk (by rw [e]; rfl)))
    · exact kT_key (T := 10) (n := f.re) (s := ⟨#[]⟩) (by simp [kT, kN, kS, hk, e]) w (made_nil w f 10 f.re ⟨#[]⟩ (fun W _ => of_float32 W f hk e r0 e2))
  · exact kT_key (T := 15) (n := 0) (s := f.text) (by simp [kT, kN, kS, hk]) w (made_nil w f 15 0 f.text (fun W _ => of_str W f hk))
  · exact kT_key (T := 8) (n := f.int) (s := ⟨#[]⟩) (by simp [kT, kN, kS, hk]) w (made_nil w f 8 f.int ⟨#[]⟩ (fun W _ => of_dur W f hk))
  · exact kT_key (T := 24) (n := 0) (s := ⟨#[]⟩) (by simp [kT, kN, kS, hk]) w (made_nil w f 24 0 ⟨#[]⟩ (fun W _ => of_over_nil W f (Or.inr (by omega)) 24 (fun W' _ => over_ns W' f.key f hk)))
/-- A text behind an interface. -/
theorem made_text (w : World) (f : Fld) (h : f.kind = 12 ∨ f.kind = 13) : Made w f (fun _ v => v = .agg (pubArr f.key (kT f) 0 ⟨#[]⟩ (.iface 293 (.string f.text)))) := by
  rcases h with hk | hk
  · have e : kT f = 26 := by simp [kT, hk]
    rw [e]
    exact made_told w f 26 0 ⟨#[]⟩ f.text (fun W _ => of_over W f (Or.inr (by omega)) 26 293 _ (fun W' _ => over_err W' f.key f hk))
  · have e : kT f = 25 := by simp [kT, hk]
    rw [e]
    exact made_told w f 25 0 ⟨#[]⟩ f.text (fun W _ => of_over W f (Or.inr (by omega)) 25 293 _ (fun W' _ => over_strg W' f.key f hk))
/-- Bytes. -/
theorem made_bs (w : World) (t : FT) (ht : t.ok w) (R : Rng t.f) (h : t.f.kind = 8 ∨ t.f.kind = 9) : Made w t.f (fun X v => ∃ A c, v = .agg (pubArr t.f.key (kT t.f) 0 ⟨#[]⟩ (.iface 36 (.slice A t.bs.length c))) ∧ ReadsB X A t.bs ∧ ∀ a, A = some a → w.heap.size ≤ a.block) := by
  rcases h with hk | hk
  · have e : kT t.f = 5 := by simp [kT, hk]
    rw [e]
    exact made_bytes w t 5 (fun W hW => of_bstr W t hk (FT.ok_below hW t ht) R.bl)
  · have e : kT t.f = 3 := by simp [kT, hk]
    rw [e]
    exact made_bytes w t 3 (fun W hW => of_bin W t hk (FT.ok_below hW t ht) R.bl)
/-- Moments. -/
theorem made_mom (w : World) (f : Fld) (R : Rng f) (hk : f.kind = 11) : Made w f (fun _ v => v = .agg (pubArr f.key (kT f) 0 ⟨#[]⟩ (.iface 117 (momPub f)))) := by
  have e : kT f = 17 := by simp [kT, hk]
  rw [e]
  exact made_time w f 17 0 ⟨#[]⟩ _ _ _ _ (fun W _ => of_over W f (Or.inr (by omega)) 17 117 _ (fun W' _ => over_time W' f.key f hk R.n0 R.n1))
/-- Lists and objects. -/
theorem made_list (w : World) (f : Fld) (h : f.kind = 15 ∨ f.kind = 16) : Made w f (fun _ v => v = .agg (pubArr f.key (kT f) 0 ⟨#[]⟩ (.iface 221 (.agg #[.slice f.iA f.ilen f.ic, .string f.fail])))) := by
  rcases h with hk | hk
  · have e : kT f = 1 := by simp [kT, hk]
    rw [e]
    exact made_arr w f 0 ⟨#[]⟩ _ _ _ _ (fun W _ => of_over W f (Or.inr (by omega)) 1 221 _ (fun W' _ => over_arr W' f.key f hk))
  · have e : kT f = 2 := by simp [kT, hk]
    rw [e]
    exact made_obj w f 0 ⟨#[]⟩ _ _ _ _ (fun W _ => of_over W f (Or.inr (by omega)) 2 221 _ (fun W' _ => over_obj W' f.key f hk))
/-- Inlined objects. -/
theorem made_in (w : World) (f : Fld) (hk : f.kind = 17) : Made w f (OwnPtr w.heap.size f.key 28 223) :=
  made_inl w f _ _ _ _ (fun W _ => of_over W f (Or.inr (by omega)) 28 221 _ (fun W' _ => over_inl W' f.key f hk))
/-- Lists of errors. -/
theorem made_er (w : World) (t : FT) (ht : t.ok w) (R : Rng t.f) (hk : t.f.kind = 18) : Made w t.f (OwnPtr w.heap.size t.f.key 1 227) :=
  made_errs w t.f (fun W hW => of_errs W t hk (FT.ok_below hW t ht) R.il)
/-- A field as the package has it, made of t; what it holds by an address is of those blocks. -/
inductive Pub (own : Nat → Prop) (Y : World) (t : FT) : Value → Prop where
  | plain (h : NilK t.f) : Pub own Y t (.agg (pubArr t.f.key (kT t.f) (kN t.f) (kS t.f) .nilIface))
  | text (h : t.f.kind = 12 ∨ t.f.kind = 13) : Pub own Y t (.agg (pubArr t.f.key (kT t.f) 0 ⟨#[]⟩ (.iface 293 (.string t.f.text))))
  | bytes (h : t.f.kind = 8 ∨ t.f.kind = 9) (A : Option Addr) (c : Nat) (hr : ReadsB Y A t.bs) (ho : ∀ a, A = some a → t.bs ≠ [] → own a.block) : Pub own Y t (.agg (pubArr t.f.key (kT t.f) 0 ⟨#[]⟩ (.iface 36 (.slice A t.bs.length c))))
  | mom (h : t.f.kind = 11) : Pub own Y t (.agg (pubArr t.f.key (kT t.f) 0 ⟨#[]⟩ (.iface 117 (momPub t.f))))
  | list (h : t.f.kind = 15 ∨ t.f.kind = 16) : Pub own Y t (.agg (pubArr t.f.key (kT t.f) 0 ⟨#[]⟩ (.iface 221 (.agg #[.slice t.f.iA t.f.ilen t.f.ic, .string t.f.fail]))))
  | inl (h : t.f.kind = 17) (p : Nat) (ho : own p) (ca : Array Value) (ta : TypeId) (hp : Blk Y p ta ca) : Pub own Y t (.agg (pubArr t.f.key (kT t.f) 0 ⟨#[]⟩ (.iface 223 (.pointer (some ⟨p, 0, none⟩)))))
  | errs (h : t.f.kind = 18) (p : Nat) (ho : own p) (ca : Array Value) (ta : TypeId) (hp : Blk Y p ta ca) : Pub own Y t (.agg (pubArr t.f.key (kT t.f) 0 ⟨#[]⟩ (.iface 227 (.pointer (some ⟨p, 0, none⟩)))))
  | c128 (h : t.f.kind = 6) (hw : t.f.width = 64) : Pub own Y t (.agg (pubArr t.f.key (kT t.f) 0 ⟨#[]⟩ (.iface 231 (.complex .f64 t.f.re.toNat t.f.im.toNat))))
  | c64 (h : t.f.kind = 6) (hw : t.f.width = 32) (r i : Nat) (hr : Nar t.f.re.toNat r) (hi : Nar t.f.im.toNat i) : Pub own Y t (.agg (pubArr t.f.key (kT t.f) 0 ⟨#[]⟩ (.iface 233 (.complex .f32 r i))))
theorem Pub.key {own : Nat → Prop} {Y : World} {t : FT} {v : Value} (h : Pub own Y t v) : ∃ n s V, v = .agg (pubArr t.f.key (kT t.f) n s V) := by
  cases h <;> exact ⟨_, _, _, rfl⟩
/-- What was made stays, where the blocks that it leans on stay. -/
theorem Pub.only {own bad : Nat → Prop} {Y Y' : World} {t : FT} {v : Value} (h : Pub own Y t v) (ho : Only bad Y Y') (hd : ∀ k, own k → ¬ bad k) : Pub own Y' t v := by
  cases h with
  | plain h => exact .plain h
  | text h => exact .text h
  | bytes h A c hr hA =>
    refine .bytes h A c (fun j hj => ?_) hA
    obtain ⟨b, o, rfl, hc⟩ := hr j hj
    refine ⟨b, o, rfl, ?_⟩
    have hlt := World.block_lt_of_cell? Y _ hc
    have hb := ho.block b hlt (hd b (hA _ rfl (by intro e; rw [e] at hj; simp at hj)))
    rw [← hc]
    simp only [World.cell?, hb]
  | mom h => exact .mom h
  | list h => exact .list h
  | inl h p hp ca ta hb => exact .inl h p hp ca ta ((ho.block p hb.lt (hd p hp)).trans hb)
  | errs h p hp ca ta hb => exact .errs h p hp ca ta ((ho.block p hb.lt (hd p hp)).trans hb)
  | c128 h hw => exact .c128 h hw
  | c64 h hw r i hr hi => exact .c64 h hw r i hr hi
theorem Pub.below {own : Nat → Prop} {Y Y' : World} {t : FT} {v : Value} (h : Pub own Y t v) (hb : Below Y.heap.size Y Y') : Pub own Y' t v := by
  cases h with
  | plain h => exact .plain h
  | text h => exact .text h
  | bytes h A c hr hA => exact .bytes h A c (hr.below hb) hA
  | mom h => exact .mom h
  | list h => exact .list h
  | inl h p hp ca ta hk => exact .inl h p hp ca ta (hk.here hb)
  | errs h p hp ca ta hk => exact .errs h p hp ca ta (hk.here hb)
  | c128 h hw => exact .c128 h hw
  | c64 h hw r i hr hi => exact .c64 h hw r i hr hi
/-- What it leans on is there. -/
theorem Pub.lt {own : Nat → Prop} {Y : World} {t : FT} {v : Value} (h : Pub own Y t v) : Pub (fun p => own p ∧ p < Y.heap.size) Y t v := by
  cases h with
  | plain h => exact .plain h
  | text h => exact .text h
  | bytes h A c hr hA =>
    refine .bytes h A c hr (fun a ha hne => ⟨hA a ha hne, ?_⟩)
    have hl : 0 < t.bs.length := by cases hb : t.bs with | nil => exact absurd hb hne | cons x l => simp
    obtain ⟨b, o, hA', hc⟩ := hr 0 hl
    have hlt := World.block_lt_of_cell? Y _ hc
    rw [ha] at hA'
    injection hA' with e
    subst e
    exact hlt
  | mom h => exact .mom h
  | list h => exact .list h
  | inl h p hp ca ta hk => exact .inl h p ⟨hp, hk.lt⟩ ca ta hk
  | errs h p hp ca ta hk => exact .errs h p ⟨hp, hk.lt⟩ ca ta hk
  | c128 h hw => exact .c128 h hw
  | c64 h hw r i hr hi => exact .c64 h hw r i hr hi
theorem Pub.mono {own own' : Nat → Prop} {Y : World} {t : FT} {v : Value} (h : Pub own Y t v) (hi : ∀ p, own p → own' p) : Pub own' Y t v := by
  cases h with
  | plain h => exact .plain h
  | text h => exact .text h
  | bytes h A c hr hA => exact .bytes h A c hr (fun a ha hne => hi _ (hA a ha hne))
  | mom h => exact .mom h
  | list h => exact .list h
  | inl h p hp ca ta hk => exact .inl h p (hi _ hp) ca ta hk
  | errs h p hp ca ta hk => exact .errs h p (hi _ hp) ca ta hk
  | c128 h hw => exact .c128 h hw
  | c64 h hw r i hr hi' => exact .c64 h hw r i hr hi'
/-- Whatever a field is, it is made. -/
theorem made_pub (w : World) (t : FT) (ht : t.ok w) (F : Fine1 t.f) (R : Rng t.f) : Made w t.f (fun X v => Pub (fun p => w.heap.size ≤ p) X t v) := by
  have pl : NilK t.f → Made w t.f (fun X v => Pub (fun p => w.heap.size ≤ p) X t v) := fun h => (made_plain w t.f F R h).mono fun X v e => by subst e; exact .plain h
  have tx : (t.f.kind = 12 ∨ t.f.kind = 13) → Made w t.f (fun X v => Pub (fun p => w.heap.size ≤ p) X t v) := fun h => (made_text w t.f h).mono fun X v e => by subst e; exact .text h
  have by_ : (t.f.kind = 8 ∨ t.f.kind = 9) → Made w t.f (fun X v => Pub (fun p => w.heap.size ≤ p) X t v) := fun h => (made_bs w t ht R h).mono fun X v ⟨A, c, e, hr, hf⟩ => by subst e; exact .bytes h A c hr (fun a ha _ => hf a ha)
  have li : (t.f.kind = 15 ∨ t.f.kind = 16) → Made w t.f (fun X v => Pub (fun p => w.heap.size ≤ p) X t v) := fun h => (made_list w t.f h).mono fun X v e => by subst e; exact .list h
  rcases kinds F with hk | hk | hk | hk | hk | hk | hk | hk | hk | hk | hk | hk | hk | hk | hk | hk | hk | hk | hk
  · exact pl (by unfold NilK; omega)
  · exact pl (by unfold NilK; omega)
  · exact pl (by unfold NilK; omega)
  · exact pl (by unfold NilK; omega)
  · exact pl (by unfold NilK; omega)
  · exact pl (by unfold NilK; omega)
  · rcases F.flo (Or.inr hk) with e | ⟨e, e1, e2⟩
    · have eT : kT t.f = 6 := by simp [kT, hk, e]
      exact (made_c128 w t.f hk e R.r0 R.i0).mono fun X v h => by subst h; rw [← eT]; exact .c128 hk e
    · have eT : kT t.f = 7 := by simp [kT, hk, e]
      exact (made_c64 w t.f hk e R.r0 e1 R.i0 e2).mono fun X v ⟨r, i, hr, hi, h⟩ => by subst h; rw [← eT]; exact .c64 hk e r i hr hi
  · exact pl (by unfold NilK; omega)
  · exact by_ (by omega)
  · exact by_ (by omega)
  · exact pl (by unfold NilK; omega)
  · exact (made_mom w t.f R hk).mono fun X v e => by subst e; exact .mom hk
  · exact tx (by omega)
  · exact tx (by omega)
  · exact pl (by unfold NilK; omega)
  · exact li (by omega)
  · exact li (by omega)
  · have eT : kT t.f = 28 := by simp [kT, hk]
    exact (made_in w t.f hk).mono fun X v ⟨p, h, hp, ca, ta, hb⟩ => by subst h; rw [← eT]; exact .inl hk p hp ca ta hb
  · have eT : kT t.f = 1 := by simp [kT, hk]
    exact (made_er w t ht R hk).mono fun X v ⟨p, h, hp, ca, ta, hb⟩ => by subst h; rw [← eT]; exact .errs hk p hp ca ta hb
end Go.Proofs.YtieidjlmgalihaaGreatDoor
