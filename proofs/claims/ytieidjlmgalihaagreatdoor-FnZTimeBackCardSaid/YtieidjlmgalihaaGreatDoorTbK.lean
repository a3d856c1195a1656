/- ZTimeText by RFC 3339, with parts of a second. -/
import Derived.Test.YtieidjlmgalihaaGreatDoorTbM
import Derived.Test.YtieidjlmgalihaaGreatDoorTbI
set_option linter.all false
namespace Go.Proofs.YtieidjlmgalihaaGreatDoor
open Go.RowKit
set_option maxRecDepth 100000
set_option maxHeartbeats 4000000 in
theorem timeText (w : World) (n o : Int) (zn : ByteArray) (h0 : -9223372036854775808 ≤ n) (h1 : n ≤ 9223372036854775807) (h2 : -86400 < o) (h3 : o < 86400) (h4 : o % 60 = 0) :
    Calls Tryz.prog 17 #[.agg #[.bool false, .int .i64 n, .int .i64 o, .string zn], .int .i64 6, .string ⟨#[]⟩] w (fun e w' => ∃ f, e = .returned (.string ⟨([34] ++ (headL n o ++ f ++ zoneL o) ++ [34]).toArray⟩) ∧ Frac (n % 1000000000).toNat f ∧ Below w.heap.size w w') := by
  have qn : ∀ (W : World) (f : Fn) (a b : Array Value), (binOp .neq 101 (.func f a b) .nilFunc).run Tryz.prog W = .ok (.bool true) W := fun _ _ _ _ => by kernel_rfl
  go_enter Tryz.func17, Tryz.ntmps17
  have HC := Lib.hid (fun W (b c e p : Nat) (cfg : Array Value) (hp : Blk W p 23 #[.bool false, .int .i64 n, .int .i64 o, .string zn]) (he : Blk W e 213 (encArr c b)) (hne : ¬ (e = b)) (hc : Blk W c 109 cfg) (hcb : ¬ (c = b)) (h10 : cfg[10]? = some (.func (.func 146) #[] #[])) (hb : Blk W b 288 #[.slice none 0 0]) => clo_is W 0 b c e p cfg n o zn hp he hne hc hcb h10 hb (Nat.zero_le _) h0 h1 h2 h3 h4)
  clear h0 h1 h2 h3 h4
  go_wp2_with (first
    | (go_at_call 50; go_must (refine (config6 _).mono ?_; rintro e w1 ⟨rfl, hb1⟩; have B0 := (Blk.new w 23 #[.bool false, .int .i64 n, .int .i64 o, .string zn]).here hb1; have HB0 := Lib.hid B0; have hlt := B0.lt; have hB1 : Below w.heap.size w w1 := Below.trans (by go_grown) (hb1.mono (by simp)); clear B0 hb1))
    | (go_at_call 51; go_must (obtain ⟨W4, hW4⟩ : ∃ W4, W4 = ((((w1.alloc (.cells #[.string ⟨#[]⟩, .string ⟨#[]⟩, .string ⟨#[]⟩, .string ⟨#[]⟩, .string ⟨#[]⟩, .string ⟨#[]⟩, .string ⟨#[]⟩, .bool false, .string ⟨#[]⟩, .nilFunc, .func (.func 146) #[] #[], .nilFunc, .nilFunc, .nilFunc, .string ⟨#[]⟩] 109)).alloc (.cells #[.string ⟨#[]⟩, .string ⟨#[]⟩, .string ⟨#[]⟩, .string ⟨#[]⟩, .string ⟨#[]⟩, .string ⟨#[]⟩, .string ⟨#[]⟩, .bool false, .string ⟨#[10]⟩, .nilFunc, .func (.func 146) #[] #[], .nilFunc, .nilFunc, .nilFunc, .string ⟨#[]⟩] 109)).alloc (.cells #[.slice none 0 0] 288)).alloc (.cells #[.pointer (some ⟨w1.heap.size + 1, 0, none⟩), .pointer (some ⟨w1.heap.size + 1 + 1, 0, none⟩), .bool false, .int .i64 0] 213)) := ⟨_, rfl⟩; have hp : Blk W4 w.heap.size 23 #[.bool false, .int .i64 n, .int .i64 o, .string zn] := (by rw [hW4]; exact (((HB0.out.alloc _).alloc _).alloc _).alloc _); have he : Blk W4 (w1.heap.size + 1 + 1 + 1) 213 (encArr (w1.heap.size + 1) (w1.heap.size + 1 + 1)) := (by rw [hW4]; exact Blk.new_at _ 213 _ _ (by simp)); have hc : Blk W4 (w1.heap.size + 1) 109 #[.string ⟨#[]⟩, .string ⟨#[]⟩, .string ⟨#[]⟩, .string ⟨#[]⟩, .string ⟨#[]⟩, .string ⟨#[]⟩, .string ⟨#[]⟩, .bool false, .string ⟨#[10]⟩, .nilFunc, .func (.func 146) #[] #[], .nilFunc, .nilFunc, .nilFunc, .string ⟨#[]⟩] := (by rw [hW4]; exact ((Blk.new_at _ 109 _ _ (by simp)).alloc _).alloc _); have hb : Blk W4 (w1.heap.size + 1 + 1) 288 #[.slice none 0 0] := (by rw [hW4]; exact (Blk.new_at _ 288 _ _ (by simp)).alloc _); have hB4 : Below w.heap.size w W4 := (by rw [hW4]; go_grown); rw [← hW4]; clear hW4; refine (HC.out W4 _ _ _ _ _ hp he (by omega) hc (by omega) rfl hb).mono ?_; rintro e2 w6 ⟨f, w5, rfl, hF, hb5, hS⟩; have hE := (he.here hb5).only hS.only (by omega); have k1 := hE.cell 1; simp only [List.getElem?_toArray, List.getElem?_cons_zero, List.getElem?_cons_succ] at k1; have hB5 : Below w.heap.size w w5 := hB4.trans (hb5.mono hB4.size); have hB6 : Below w.heap.size w w6 := hB5.trans (hS.only.below (B := w.heap.size) hB5.size (fun k hk h => by omega)); have HS := Lib.hid hS; have HF := Lib.hid hF; clear hS hF hE hp he hc hb hb5 hB5 hB4))
    | (go_at_call 97; go_must (refine (str_is _ _ 0 _ _ HS.out).mono ?_; rintro e3 w7 ⟨rfl, rfl⟩))
    | go_in)
  go_ret
  exact ⟨f, by simp [List.append_assoc], HF.out, hB6⟩
end Go.Proofs.YtieidjlmgalihaaGreatDoor
