/- AppendTime of the JSON encoder; the closure of ZTimeText. -/
import Derived.Test.YtieidjlmgalihaaGreatDoorTbL
import Derived.Test.YtieidjlmgalihaaGreatDoorWk6
import Derived.Stop.Asserts
set_option linter.all false
namespace Go.Proofs.YtieidjlmgalihaaGreatDoor
open Go.RowKit
set_option maxRecDepth 100000
/-- The quoted text of a moment. -/
abbrev quoted (n o : Int) (f : List UInt8) : List UInt8 := [34] ++ (headL n o ++ f ++ zoneL o) ++ [34]
set_option maxHeartbeats 4000000 in
theorem appendTime_is (w : World) (B b c e : Nat) (cfg : Array Value) (n o : Int) (z : ByteArray) (he : Blk w e 213 (encArr c b)) (hne : ¬ (e = b)) (hc : Blk w c 109 cfg) (hcb : ¬ (c = b)) (h10 : cfg[10]? = some (.func (.func 146) #[] #[])) (hb : Blk w b 288 #[.slice none 0 0]) (hB : B ≤ w.heap.size) (h0 : -9223372036854775808 ≤ n) (h1 : n ≤ 9223372036854775807) (h2 : -86400 < o) (h3 : o < 86400) (h4 : o % 60 = 0) :
    Calls Tryz.prog 291 #[.pointer (some ⟨e, 0, none⟩), momV n o z] w (fun e w' => ∃ f, e = .returned (.tuple #[]) ∧ Frac (n % 1000000000).toNat f ∧ BufSt w B b (quoted n o f) w') := by
  have qn : ∀ (W : World) (f : Fn) (a b : Array Value), (binOp .neq 101 (.func f a b) .nilFunc).run Tryz.prog W = .ok (.bool true) W := fun _ _ _ _ => by kernel_rfl
  have hta : ∀ (v : Value) (W : World), (Instr.typeAssert (.iface 208 v) 291 337 true).run Tryz.prog W = .ok (.tuple #[.iface 208 v, .bool true]) W := fun v W => run_typeAssert_hasB Tryz.underlying337 (by kernel_rfl) v 291 W
  have c1 := he.cell 1
  have c0 := he.cell 0
  simp only [List.getElem?_toArray, List.getElem?_cons_zero, List.getElem?_cons_succ] at c0 c1
  have d10 := (hc.cell 10).trans h10
  have HE := Lib.hid he
  have HBB := Lib.hid hb
  have hlb := hb.lt
  have hle := he.lt
  have hlc := hc.lt
  have HLY := Lib.hid (fun W (h : Blk W e 213 (encArr c b)) (k : Blk W b 288 #[.slice none 0 0]) (hW : B ≤ W.heap.size) => layout_is W B b c e n o z h hne k hW h0 h1 h2 h3 h4)
  clear he hc hb h0 h1 h2 h3 h4
  go_enter Tryz.func291, Tryz.ntmps291
  go_wp2_with (first
    | (go_at_call 300; go_must (first | ((with_reducible refine (len_is _ _ B b [] (BufSt.fresh (HBB.out.alloc _))).mono ?_); rintro e1 w1 ⟨rfl, rfl⟩) | ((with_reducible refine (len_is _ _ B b _ HS.out).mono ?_); rintro e1 w1 ⟨rfl, rfl⟩)))
    | (go_at_call 292; go_must (refine (HLY.out _ (((HE.out.alloc _).alloc _).alloc _) (((HBB.out.alloc _).alloc _).alloc _) (by simp; omega)).mono ?_; rintro e1 w1 ⟨f, rfl, hF, hS⟩; have hS' := hS.base.base.base; have hE1 := HE.out.only hS'.only hne; have k1 := hE1.cell 1; simp only [List.getElem?_toArray, List.getElem?_cons_zero, List.getElem?_cons_succ] at k1; have HS := Lib.hid hS'; have HF := Lib.hid hF; clear hS hS' hE1 hF))
    | go_in)
  go_returns
  exact ⟨f, rfl, HF.out, HS.out⟩
set_option maxHeartbeats 4000000 in
/-- The closure of ZTimeText. -/
theorem clo_is (w : World) (B b c e p : Nat) (cfg : Array Value) (n o : Int) (z : ByteArray) (hp : Blk w p 23 #[.bool false, .int .i64 n, .int .i64 o, .string z]) (he : Blk w e 213 (encArr c b)) (hne : ¬ (e = b)) (hc : Blk w c 109 cfg) (hcb : ¬ (c = b)) (h10 : cfg[10]? = some (.func (.func 146) #[] #[])) (hb : Blk w b 288 #[.slice none 0 0]) (hB : B ≤ w.heap.size) (h0 : -9223372036854775808 ≤ n) (h1 : n ≤ 9223372036854775807) (h2 : -86400 < o) (h3 : o < 86400) (h4 : o % 60 = 0) :
    Calls Tryz.prog 51 #[.iface 208 (.pointer (some ⟨e, 0, none⟩)), .pointer (some ⟨p, 0, none⟩)] w (fun e w' => ∃ f w1, e = .returned (.tuple #[]) ∧ Frac (n % 1000000000).toNat f ∧ Below w.heap.size w w1 ∧ BufSt w1 B b (quoted n o f) w') := by
  have hna : ∀ (a : Addr) (W : World), (nilAhead 615 208 (.pointer (some a)) "AppendTime").run Tryz.prog W = .ok (some false) W := fun _ _ => by kernel_rfl
  have p0 := hp.cell 0
  have p1 := hp.cell 1
  have p2 := hp.cell 2
  have p3 := hp.cell 3
  simp only [List.getElem?_toArray, List.getElem?_cons_zero, List.getElem?_cons_succ] at p0 p1 p2 p3
  have HM := Lib.hid (fun W => moment_not W n o z h0 h1)
  have HA := Lib.hid (fun W (hW : Below w.heap.size w W) => appendTime_is W B b c e cfg n o z (he.here hW) hne (hc.here hW) hcb h10 (hb.here hW) (Nat.le_trans hB hW.size) h0 h1 h2 h3 h4)
  clear hp he hc hb h0 h1 h2 h3 h4
  go_enter Tryz.func51, Tryz.ntmps51
  go_wp2_with fail
  go_region_with (first
    | (go_at_call 52; go_must (refine (HM.out _).mono ?_; rintro e1 w1 ⟨rfl, hb1⟩; have hB1 : Below w.heap.size w w1 := Below.trans (b := w.drew) (by go_grown) hb1; clear hb1))
    | (go_at_call 291; go_must (refine (HA.out _ hB1).mono ?_; rintro e1 w2 ⟨f, rfl, hF, hS⟩; have HS := Lib.hid hS; have HF := Lib.hid hF; clear hS hF)))
  all_goals go_wp2
  all_goals go_returns
  all_goals exact ⟨f, w1, rfl, HF.out, hB1, HS.out⟩
/-- String of a buffer. -/
theorem bs_reads {w : World} {B : Nat} {A : Option Addr} {n c : Nat} {l : List UInt8} (h : Bs w B (.slice A n c) l) : ReadsB w A l := by
  intro j hj
  rcases h.2 with ⟨h1, h2⟩ | ⟨g, cap, cur, h1, h2, h3, h4, h5, h6, h7⟩
  · omega
  · injection h1 with h1
    refine ⟨g, 0, h1, ?_⟩
    have hc := h.cells (g := g) (by rw [h1]; rfl) j (.int .u8 (l[j].toNat : Int)) (by simp [hj])
    have hadd : (⟨g, 0, none⟩ : Addr).add j = ⟨g, j, none⟩ := by unfold Addr.add; split <;> simp_all
    rw [hadd] at hc
    simpa using hc
theorem str_is (w0 w : World) (B b : Nat) (l : List UInt8) (h : BufSt w0 B b l w) : Calls Tryz.prog 97 #[.pointer (some ⟨b, 0, none⟩)] w (fun e w' => e = .returned (.string ⟨l.toArray⟩) ∧ w = w') := by
  obtain ⟨V, hb, hs, ho, hr⟩ := h
  obtain ⟨A, c, rfl⟩ := bs_slice hs
  have hc := hb.cell 0
  simp only [List.getElem?_toArray, List.getElem?_cons_zero] at hc
  have hcv := conv_read (bs_reads hs) c
  clear hb hs ho hr
  go_enter Tryz.func97, Tryz.ntmps97
  go_wp2
  go_ret
  exact ⟨rfl, rfl⟩
end Go.Proofs.YtieidjlmgalihaaGreatDoor
