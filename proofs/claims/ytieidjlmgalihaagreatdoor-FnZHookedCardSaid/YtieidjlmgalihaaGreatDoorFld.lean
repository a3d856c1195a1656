/- Fields: what can be read of them. -/
import Derived.Test.YtieidjlmgalihaaGreatDoorIo1
namespace Go.Proofs.YtieidjlmgalihaaGreatDoor
open Go.RowKit
set_option maxRecDepth 100000
/-- What a field holds. -/
structure Fld where
  kind : Int
  key : ByteArray
  width : Int
  int : Int
  uint : Int
  re : Int
  im : Int
  text : ByteArray
  bA : Option Addr
  bn : Nat
  bc : Nat
  zero : Bool
  nanos : Int
  offset : Int
  zone : ByteArray
  iA : Option Addr
  ilen : Nat
  ic : Nat
  fail : ByteArray
instance : Inhabited Fld := ⟨⟨0, .empty, 0, 0, 0, 0, 0, .empty, none, 0, 0, false, 0, 0, .empty, none, 0, 0, .empty⟩⟩
abbrev Fld.arr (f : Fld) : Array Value := #[.int .i64 f.kind, .string f.key, .int .i64 f.width, .int .i64 f.int, .int .u64 f.uint, .int .u64 f.re, .int .u64 f.im, .string f.text, .slice f.bA f.bn f.bc, .bool f.zero, .int .i64 f.nanos, .int .i64 f.offset, .string f.zone, .slice f.iA f.ilen f.ic, .string f.fail]
theorem Fld.cells {w : World} {b q : Nat} {f : Fld} (h : ∀ j, j < 15 → w.cell? ⟨b, q + j, none⟩ = f.arr[j]?) : w.cell? ⟨b, q, none⟩ = some (.int .i64 f.kind) ∧ w.cell? ⟨b, q + 1, none⟩ = some (.string f.key) ∧ w.cell? ⟨b, q + 2, none⟩ = some (.int .i64 f.width) ∧ w.cell? ⟨b, q + 3, none⟩ = some (.int .i64 f.int) ∧ w.cell? ⟨b, q + 4, none⟩ = some (.int .u64 f.uint) ∧ w.cell? ⟨b, q + 5, none⟩ = some (.int .u64 f.re) ∧ w.cell? ⟨b, q + 6, none⟩ = some (.int .u64 f.im) ∧ w.cell? ⟨b, q + 7, none⟩ = some (.string f.text) ∧ w.cell? ⟨b, q + 8, none⟩ = some (.slice f.bA f.bn f.bc) ∧ w.cell? ⟨b, q + 9, none⟩ = some (.bool f.zero) ∧ w.cell? ⟨b, q + 10, none⟩ = some (.int .i64 f.nanos) ∧ w.cell? ⟨b, q + 11, none⟩ = some (.int .i64 f.offset) ∧ w.cell? ⟨b, q + 12, none⟩ = some (.string f.zone) ∧ w.cell? ⟨b, q + 13, none⟩ = some (.slice f.iA f.ilen f.ic) ∧ w.cell? ⟨b, q + 14, none⟩ = some (.string f.fail) :=
  ⟨h 0 (by omega), h 1 (by omega), h 2 (by omega), h 3 (by omega), h 4 (by omega), h 5 (by omega), h 6 (by omega), h 7 (by omega), h 8 (by omega), h 9 (by omega), h 10 (by omega), h 11 (by omega), h 12 (by omega), h 13 (by omega), h 14 (by omega)⟩
/-- A field's bytes and items can be read, to a depth. -/
def FldOk : Nat → World → Fld → Prop
  | 0, _, _ => False
  | k + 1, w, f => f.bn ≤ maxLen ∧ (∃ l : List UInt8, l.length = f.bn ∧ ReadsB w f.bA l) ∧ f.ilen ≤ maxLen ∧ ∃ g : Nat → Fld, RowAt w f.iA f.ilen 15 (fun i => (g i).arr) ∧ ∀ i, i < f.ilen → FldOk k w (g i)
theorem FldOk.below : ∀ {k : Nat} {w w' : World} {f : Fld}, FldOk k w f → Below w.heap.size w w' → FldOk k w' f
  | 0, _, _, _, h, _ => h.elim
  | k + 1, _, _, _, ⟨h1, ⟨l, h2, h3⟩, h4, g, h5, h6⟩, hb => ⟨h1, ⟨l, h2, h3.below hb⟩, h4, g, h5.below hb, fun i hi => FldOk.below (h6 i hi) hb⟩
theorem FldOk.up : ∀ {k : Nat} {w : World} {f : Fld}, FldOk k w f → FldOk (k + 1) w f
  | 0, _, _, h => h.elim
  | k + 1, _, _, ⟨h1, h2, h4, g, h5, h6⟩ => ⟨h1, h2, h4, g, h5, fun i hi => FldOk.up (h6 i hi)⟩
/-- A slice of fields, each readable to a depth. -/
def FldsOk (k : Nat) (w : World) (A : Option Addr) (n : Nat) (g : Nat → Fld) : Prop := n ≤ maxLen ∧ RowAt w A n 15 (fun i => (g i).arr) ∧ ∀ i, i < n → FldOk k w (g i)
theorem FldsOk.below {k : Nat} {w w' : World} {A : Option Addr} {n : Nat} {g : Nat → Fld} (h : FldsOk k w A n g) (hb : Below w.heap.size w w') : FldsOk k w' A n g := ⟨h.1, h.2.1.below hb, fun i hi => (h.2.2 i hi).below hb⟩
end Go.Proofs.YtieidjlmgalihaaGreatDoor
