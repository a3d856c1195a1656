/- Fields; carried. -/
import Derived.Test.YtieidjlmgalihaaGreatDoorKit3
import Derived.Laws.IdiomStrings
set_option linter.all false
namespace Go.Proofs.YtieidjlmgalihaaGreatDoor
open Go.RowKit
set_option maxRecDepth 100000
open Go.RowKit
set_option maxRecDepth 100000
abbrev bvals (l : List UInt8) : List Value := l.map fun (c : UInt8) => Value.int .u8 (c.toNat : Int)
/-- A slice that reads as the bytes l. -/
def ReadsB (w : World) (A : Option Addr) (l : List UInt8) : Prop := ∀ j (hj : j < l.length), ∃ b o, A = some ⟨b, o, none⟩ ∧ w.cell? ⟨b, o + j, none⟩ = some (.int .u8 (l[j].toNat : Int))
theorem ReadsB.drew {w : World} {A : Option Addr} {l : List UInt8} (h : ReadsB w A l) : ReadsB w.drew A l := h
theorem ReadsB.below {w w' : World} {A : Option Addr} {l : List UInt8} (h : ReadsB w A l) (hb : Below w.heap.size w w') : ReadsB w' A l := fun j hj => by
  obtain ⟨b, o, hA, hc⟩ := h j hj
  exact ⟨b, o, hA, (hb.cell (p := ⟨b, o + j, none⟩) (World.block_lt_of_cell? w _ hc)).trans hc⟩
/-- string(b). -/
theorem conv_read {w : World} {A : Option Addr} {l : List UInt8} (h : ReadsB w A l) (c : Nat) : (convert 36 9 (.slice A l.length c)).run Tryz.prog w = .ok (.string ⟨l.toArray⟩) w := by
  cases l with
  | nil =>
    have := run_convert_bytes_string (P := Tryz.prog) w 36 9 5 A 0 c Tryz.underlying36 Tryz.underlying5 Tryz.underlying9
    show (convert 36 9 (.slice A 0 c)).run Tryz.prog w = _
    rw [this]
    cases A <;> simp [Conv.bytesToString, loadCells]
    all_goals rfl
  | cons x l =>
    obtain ⟨b, o, rfl, _⟩ := h 0 (by simp)
    refine run_convert_bytes_back w 36 9 5 ⟨b, o, none⟩ c (x :: l) Tryz.underlying36 Tryz.underlying5 Tryz.underlying9 (fun j hj => ?_)
    obtain ⟨b', o', hA, hc⟩ := h j hj
    obtain ⟨rfl, rfl⟩ : b = b' ∧ o = o' := by injection hA with hA; injection hA with h1 h2; exact ⟨h1, h2⟩
    rw [Go.WideShapes.add_plain]
    exact hc
end Go.Proofs.YtieidjlmgalihaaGreatDoor
namespace Go.Proofs.YtieidjlmgalihaaGreatDoor
open Go.RowKit
set_option maxRecDepth 100000
/-- What a field holds. -/
structure Fld where
  kind : Int
  key : ByteArray
  width : Int
  int : Int
  uint : Int
  re : Int
  im : Int
  text : ByteArray
  bA : Option Addr
  bn : Nat
  bc : Nat
  zero : Bool
  nanos : Int
  offset : Int
  zone : ByteArray
  iA : Option Addr
  ilen : Nat
  ic : Nat
  fail : ByteArray
instance : Inhabited Fld := ⟨⟨0, .empty, 0, 0, 0, 0, 0, .empty, none, 0, 0, false, 0, 0, .empty, none, 0, 0, .empty⟩⟩
abbrev Fld.arr (f : Fld) : Array Value := #[.int .i64 f.kind, .string f.key, .int .i64 f.width, .int .i64 f.int, .int .u64 f.uint, .int .u64 f.re, .int .u64 f.im, .string f.text, .slice f.bA f.bn f.bc, .bool f.zero, .int .i64 f.nanos, .int .i64 f.offset, .string f.zone, .slice f.iA f.ilen f.ic, .string f.fail]
theorem Fld.cells {w : World} {b q : Nat} {f : Fld} (h : ∀ j, j < 15 → w.cell? ⟨b, q + j, none⟩ = f.arr[j]?) : w.cell? ⟨b, q, none⟩ = some (.int .i64 f.kind) ∧ w.cell? ⟨b, q + 1, none⟩ = some (.string f.key) ∧ w.cell? ⟨b, q + 2, none⟩ = some (.int .i64 f.width) ∧ w.cell? ⟨b, q + 3, none⟩ = some (.int .i64 f.int) ∧ w.cell? ⟨b, q + 4, none⟩ = some (.int .u64 f.uint) ∧ w.cell? ⟨b, q + 5, none⟩ = some (.int .u64 f.re) ∧ w.cell? ⟨b, q + 6, none⟩ = some (.int .u64 f.im) ∧ w.cell? ⟨b, q + 7, none⟩ = some (.string f.text) ∧ w.cell? ⟨b, q + 8, none⟩ = some (.slice f.bA f.bn f.bc) ∧ w.cell? ⟨b, q + 9, none⟩ = some (.bool f.zero) ∧ w.cell? ⟨b, q + 10, none⟩ = some (.int .i64 f.nanos) ∧ w.cell? ⟨b, q + 11, none⟩ = some (.int .i64 f.offset) ∧ w.cell? ⟨b, q + 12, none⟩ = some (.string f.zone) ∧ w.cell? ⟨b, q + 13, none⟩ = some (.slice f.iA f.ilen f.ic) ∧ w.cell? ⟨b, q + 14, none⟩ = some (.string f.fail) :=
  ⟨h 0 (by omega), h 1 (by omega), h 2 (by omega), h 3 (by omega), h 4 (by omega), h 5 (by omega), h 6 (by omega), h 7 (by omega), h 8 (by omega), h 9 (by omega), h 10 (by omega), h 11 (by omega), h 12 (by omega), h 13 (by omega), h 14 (by omega)⟩
/-- A field's bytes and items can be read, to a depth. -/
def FldOk : Nat → World → Fld → Prop
  | 0, _, _ => False
  | k + 1, w, f => f.bn ≤ maxLen ∧ (∃ l : List UInt8, l.length = f.bn ∧ ReadsB w f.bA l) ∧ f.ilen ≤ maxLen ∧ ∃ g : Nat → Fld, RowAt w f.iA f.ilen 15 (fun i => (g i).arr) ∧ ∀ i, i < f.ilen → FldOk k w (g i)
theorem FldOk.below : ∀ {k : Nat} {w w' : World} {f : Fld}, FldOk k w f → Below w.heap.size w w' → FldOk k w' f
  | 0, _, _, _, h, _ => h.elim
  | k + 1, _, _, _, ⟨h1, ⟨l, h2, h3⟩, h4, g, h5, h6⟩, hb => ⟨h1, ⟨l, h2, h3.below hb⟩, h4, g, h5.below hb, fun i hi => FldOk.below (h6 i hi) hb⟩
theorem FldOk.up : ∀ {k : Nat} {w : World} {f : Fld}, FldOk k w f → FldOk (k + 1) w f
  | 0, _, _, h => h.elim
  | k + 1, _, _, ⟨h1, h2, h4, g, h5, h6⟩ => ⟨h1, h2, h4, g, h5, fun i hi => FldOk.up (h6 i hi)⟩
/-- A slice of fields, each readable to a depth. -/
def FldsOk (k : Nat) (w : World) (A : Option Addr) (n : Nat) (g : Nat → Fld) : Prop := n ≤ maxLen ∧ RowAt w A n 15 (fun i => (g i).arr) ∧ ∀ i, i < n → FldOk k w (g i)
theorem FldsOk.below {k : Nat} {w w' : World} {A : Option Addr} {n : Nat} {g : Nat → Fld} (h : FldsOk k w A n g) (hb : Below w.heap.size w w') : FldsOk k w' A n g := ⟨h.1, h.2.1.below hb, fun i hi => (h.2.2 i hi).below hb⟩
end Go.Proofs.YtieidjlmgalihaaGreatDoor
namespace Go.Proofs.YtieidjlmgalihaaGreatDoor
open Go.RowKit
set_option maxRecDepth 100000
theorem info131 : (Tryz.prog.info? 131).map (fun i => (i.zero, i.size, i.bytes)) = some (some (.agg #[.string ⟨#[]⟩, .int .u8 0, .int .i64 0, .string ⟨#[]⟩, .nilIface]), 5, 64) := by kernel_rfl
/-- A field as a core carries it. -/
abbrev Fld.car (f : Fld) : List Value := [.string f.key, .int .u8 27, .int .i64 0, .string ⟨#[]⟩, .iface 39 (.agg f.arr)]
/-- The first n of these, as a core carries them. -/
def carr (g : Nat → Fld) : Nat → List Value
  | 0 => []
  | n + 1 => carr g n ++ (g n).car
theorem carr_length (g : Nat → Fld) : ∀ n, (carr g n).length = n * 5
  | 0 => rfl
  | n + 1 => by rw [carr, List.length_append, carr_length g n]; simp; omega
theorem carr_at (g : Nat → Fld) : ∀ (n i j : Nat), i < n → j < 5 → (carr g n)[i * 5 + j]? = (g i).car[j]?
  | 0, _, _, h, _ => by omega
  | n + 1, i, j, h, hj => by
    rw [carr]
    by_cases hi : i < n
    · rw [List.getElem?_append_left (by rw [carr_length]; omega)]
      exact carr_at g n i j hi hj
    · obtain rfl : i = n := by omega
      rw [List.getElem?_append_right (by rw [carr_length]; omega), carr_length]
      congr 1
      omega
theorem one_car (f : Fld) : ∀ u ∈ f.car.toArray.toList, u.oneCell' = true := by simp [Value.oneCell']
/-- What carried leaves. -/
def CarPost (n : Nat) (g : Nat → Fld) (w : World) (e : Ending) (w' : World) : Prop :=
  ∃ V, e = .returned V ∧ w'.ownsRow w.heap.size 131 5 V n (carr g n) ∧ Below w.heap.size w w' ∧ (n = 0 → V = .slice none 0 0)
set_option maxHeartbeats 2000000 in
theorem carried_any (w : World) (A : Option Addr) (n c : Nat) (g : Nat → Fld) (hn : n ≤ 100000) (hr : RowAt w A n 15 fun i => (g i).arr) : Calls Tryz.prog 78 #[.slice A n c] w (CarPost n g w) := by
  go_enter Tryz.func78, Tryz.ntmps78
  go_wp2_with fail
  go_loopw [3, 8] (fun V i wr => ∃ q : Nat, q ≤ n ∧ i = .int .i64 q ∧ Below w.heap.size w wr ∧ wr.ownsRow w.heap.size 131 5 V q (carr g q) ∧ (q = 0 → V = .slice none 0 0)) (fun _ i _ => n - (intOf i).toNat)
  case atStart => exact ⟨0, Nat.zero_le _, rfl, Below.refl _ _, World.ownsRow_nil _ _ _ _, fun _ => rfl⟩
  case round =>
    obtain ⟨q, hq, rfl, hb, hown, hz⟩ := hrel
    have HZ := Lib.hid hz
    clear hz
    by_cases hlt : q < n
    · obtain ⟨b, off, rfl, hs, hc⟩ := (hr.below hb) q hlt
      have hcs := Fld.cells hc
      have hcar : carr g (q + 1) = carr g q ++ (g q).car := rfl
      have HC := Lib.hid hcar
      clear hc hs hr hcar
      generalize g q = f at *
      obtain ⟨a0, a1, a2, a3, a4, a5, a6, a7, a8, a9, a10, a11, a12, a13, a14⟩ := hcs
      have hsz := hb.size
      go_wp2_with (at_builtin; go_must (refine wpList_append1 rfl (.tmp 12) (.tmp 18) 148 rfl w.heap.size 131 _ 5 64 info131 Tryz.underlying148 rfl (by decide) u3 q (carr g q) _ rfl (hown.alloc _) f.car.toArray _ rfl (by simp) rfl (one_car f) (by unfold maxLen; omega) (by omega) (by simp; omega) ?_; intro g1 cap w1 hown1 ho1 hlies hg1))
      go_roundw
      case rel =>
        have hb1 : Below w.heap.size (wr.alloc (.cells f.arr 39)) w1 := ho1.below (by simp; omega) (fun j hj e => by have := (hown.lt j e).1; omega)
        refine ⟨q + 1, by omega, by go_num, Below.trans (hb.alloc hsz _) hb1, ?_, fun h => by omega⟩
        rw [HC.out]
        simpa using hown1
      case measure => simp [intOf]; omega
    · have hqe : q = n := by omega
      subst hqe
      go_wp2_with fail
      go_ret
      exact ⟨_, rfl, hown, hb, HZ.out⟩
end Go.Proofs.YtieidjlmgalihaaGreatDoor
