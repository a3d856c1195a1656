/- What is made of a field, by its kind. -/
import Derived.Test.YtieidjlmgalihaaGreatDoorEqE
import Derived.Test.YtieidjlmgalihaaGreatDoorEqD
import Derived.Test.YtieidjlmgalihaaGreatDoorEqQ
set_option linter.all false
namespace Go.Proofs.YtieidjlmgalihaaGreatDoor
open Go.RowKit
/-- A field that holds nothing. -/
theorem made_nil (w : World) (f : Fld) (T n : Int) (s : ByteArray) (H : ∀ W, Below w.heap.size w W → Calls Tryz.prog 60 #[.agg f.arr] W (FieldIs W f.key T n s .nilIface)) : Made w f (fun _ v => v = .agg (pubArr f.key T n s .nilIface)) :=
  fun W hW => (H W hW).mono fun _ W' ⟨h1, h2⟩ => ⟨_, h1, h2, fun W2 _ => (alone_nil W2 f.key s n T).mono fun _ W3 ⟨h3, h4⟩ => ⟨_, h3, h4, rfl⟩⟩
theorem made_told (w : World) (f : Fld) (T n : Int) (s z : ByteArray) (H : ∀ W, Below w.heap.size w W → Calls Tryz.prog 60 #[.agg f.arr] W (FieldIs W f.key T n s (.iface 293 (.string z)))) : Made w f (fun _ v => v = .agg (pubArr f.key T n s (.iface 293 (.string z)))) :=
  fun W hW => (H W hW).mono fun _ W' ⟨h1, h2⟩ => ⟨_, h1, h2, fun W2 _ => (alone_told W2 f.key s n T z).mono fun _ W3 ⟨h3, h4⟩ => ⟨_, h3, h4, rfl⟩⟩
/-- A field that holds bytes of its own. -/
theorem made_bytes (w : World) (t : FT) (T : Int) (H : ∀ W, Below w.heap.size w W → Calls Tryz.prog 60 #[.agg t.f.arr] W (BytesIs W t.f.key T t.bs)) : Made w t.f (fun X v => ∃ A c, v = .agg (pubArr t.f.key T 0 ⟨#[]⟩ (.iface 36 (.slice A t.bs.length c))) ∧ ReadsB X A t.bs ∧ ∀ a, A = some a → w.heap.size ≤ a.block) :=
  fun W hW => (H W hW).mono fun _ W' ⟨A, c, h1, hr, h2, hf⟩ => ⟨_, h1, h2, fun W2 hW2 => (alone_bytes W2 t.f.key ⟨#[]⟩ 0 T A t.bs.length c).mono fun _ W3 ⟨h3, h4⟩ => ⟨_, h3, h4, A, c, rfl, (hr.below hW2).below h4, fun a ha => Nat.le_trans hW.size (hf a ha)⟩⟩
theorem made_time (w : World) (f : Fld) (T n : Int) (s : ByteArray) (a b o : Int) (z : ByteArray) (H : ∀ W, Below w.heap.size w W → Calls Tryz.prog 60 #[.agg f.arr] W (FieldIs W f.key T n s (.iface 117 (.agg #[.int .i64 a, .int .i32 b, .string z, .int .i64 o])))) : Made w f (fun _ v => v = .agg (pubArr f.key T n s (.iface 117 (.agg #[.int .i64 a, .int .i32 b, .string z, .int .i64 o])))) :=
  fun W hW => (H W hW).mono fun _ W' ⟨h1, h2⟩ => ⟨_, h1, h2, fun W2 _ => (alone_time W2 f.key s n T a b o z).mono fun _ W3 ⟨h3, h4⟩ => ⟨_, h3, h4, rfl⟩⟩
theorem made_arr (w : World) (f : Fld) (n : Int) (s : ByteArray) (A : Option Addr) (m c : Nat) (z : ByteArray) (H : ∀ W, Below w.heap.size w W → Calls Tryz.prog 60 #[.agg f.arr] W (FieldIs W f.key 1 n s (.iface 221 (.agg #[.slice A m c, .string z])))) : Made w f (fun _ v => v = .agg (pubArr f.key 1 n s (.iface 221 (.agg #[.slice A m c, .string z])))) :=
  fun W hW => (H W hW).mono fun _ W' ⟨h1, h2⟩ => ⟨_, h1, h2, fun W2 _ => (alone_arr W2 f.key s n A m c z).mono fun _ W3 ⟨h3, h4⟩ => ⟨_, h3, h4, rfl⟩⟩
theorem made_obj (w : World) (f : Fld) (n : Int) (s : ByteArray) (A : Option Addr) (m c : Nat) (z : ByteArray) (H : ∀ W, Below w.heap.size w W → Calls Tryz.prog 60 #[.agg f.arr] W (FieldIs W f.key 2 n s (.iface 221 (.agg #[.slice A m c, .string z])))) : Made w f (fun _ v => v = .agg (pubArr f.key 2 n s (.iface 221 (.agg #[.slice A m c, .string z])))) :=
  fun W hW => (H W hW).mono fun _ W' ⟨h1, h2⟩ => ⟨_, h1, h2, fun W2 _ => (alone_obj W2 f.key s n A m c z).mono fun _ W3 ⟨h3, h4⟩ => ⟨_, h3, h4, rfl⟩⟩
/-- A pointer of its own: newer than what was there, its block known whole. -/
def OwnPtr (B : Nat) (k : ByteArray) (T : Int) (ty : TypeId) (X : World) (v : Value) : Prop := ∃ p : Nat, v = .agg (pubArr k T 0 ⟨#[]⟩ (.iface ty (.pointer (some ⟨p, 0, none⟩)))) ∧ B ≤ p ∧ ∃ ca ta, Blk X p ta ca
theorem made_inl (w : World) (f : Fld) (A : Option Addr) (m c : Nat) (z : ByteArray) (H : ∀ W, Below w.heap.size w W → Calls Tryz.prog 60 #[.agg f.arr] W (FieldIs W f.key 28 0 ⟨#[]⟩ (.iface 221 (.agg #[.slice A m c, .string z])))) : Made w f (OwnPtr w.heap.size f.key 28 223) :=
  fun W hW => (H W hW).mono fun _ W' ⟨h1, h2⟩ => ⟨_, h1, h2, fun W2 hW2 => (alone_inl W2 f.key ⟨#[]⟩ 0 A m c z).mono fun _ W3 ⟨p, h3, h5, h6, h4, h7⟩ => ⟨_, h3, h4, p, rfl, by have := hW.size; have := h2.size; have := hW2.size; omega, h7⟩⟩
theorem made_errs (w : World) (f : Fld) (H : ∀ W, Below w.heap.size w W → Calls Tryz.prog 60 #[.agg f.arr] W (ErrsIs W f.key)) : Made w f (OwnPtr w.heap.size f.key 1 227) :=
  fun W hW => (H W hW).mono fun _ W' ⟨A, m, c, h1, h2⟩ => ⟨_, h1, h2, fun W2 hW2 => (alone_errs W2 f.key ⟨#[]⟩ 0 A m c).mono fun _ W3 ⟨p, h3, h5, h6, h4, h7⟩ => ⟨_, h3, h4, p, rfl, by have := hW.size; have := h2.size; have := hW2.size; omega, h7⟩⟩
end Go.Proofs.YtieidjlmgalihaaGreatDoor
