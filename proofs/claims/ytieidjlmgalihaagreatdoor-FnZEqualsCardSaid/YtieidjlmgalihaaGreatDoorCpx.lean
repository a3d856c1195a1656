/- A complex number as a field: what is made of it. -/
import Derived.Test.YtieidjlmgalihaaGreatDoorCpxU
import Derived.Test.YtieidjlmgalihaaGreatDoorEqS
set_option linter.all false
namespace Go.Proofs.YtieidjlmgalihaaGreatDoor
open Go.RowKit
theorem made_c128 (w : World) (f : Fld) (hk : f.kind = 6) (hw : f.width = 64) (h0 : 0 ≤ f.re) (h1 : 0 ≤ f.im) : Made w f (fun _ v => v = .agg (pubArr f.key 6 0 ⟨#[]⟩ (.iface 231 (.complex .f64 f.re.toNat f.im.toNat)))) :=
  fun W _ => (of_c128 W f hk hw h0 h1).mono fun _ W' ⟨h1, h2⟩ => ⟨_, h1, h2, fun W2 _ => (alone_c128 W2 f.key ⟨#[]⟩ 0 6 _ _).mono fun _ W3 ⟨h3, h4⟩ => ⟨_, h3, h4, rfl⟩⟩
theorem made_c64 (w : World) (f : Fld) (hk : f.kind = 6) (hw : f.width = 32) (h0 : 0 ≤ f.re) (k0 : f.re < 4294967296) (h1 : 0 ≤ f.im) (k1 : f.im < 4294967296) : Made w f (fun _ v => ∃ r i, Nar f.re.toNat r ∧ Nar f.im.toNat i ∧ v = .agg (pubArr f.key 7 0 ⟨#[]⟩ (.iface 233 (.complex .f32 r i)))) :=
  fun W _ => (of_c64 W f hk hw h0 h1 k0 k1).mono fun _ W' ⟨r, i, hr, hi, h1, h2⟩ => ⟨_, h1, h2, fun W2 _ => (alone_c64 W2 f.key ⟨#[]⟩ 0 7 r i).mono fun _ W3 ⟨h3, h4⟩ => ⟨_, h3, h4, r, i, hr, hi, rfl⟩⟩
end Go.Proofs.YtieidjlmgalihaaGreatDoor
