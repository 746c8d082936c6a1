/-
  What is proved here: impl.writeParts over a dumper: the dumper has then been given all parts, and the sum of their lengths is returned. Conditions: all parts together have at most 1000000000 bytes, and there are at most 1000000000 of them.
-/
import Derived.Test.YtbioeknobmcbiaaWp
namespace Go.Proofs.Ytbioeknobmcbiaa
open Go.RowKit

theorem own_new {w : World} {base : Nat} {v : Value} {m : Nat} {bs : List UInt8} (h : w.ownsRow base 5 1 v (0 + m) ([] ++ bc bs)) (hm : bs.length = m) :
    ∃ A c, v = .slice A m c ∧ m ≤ c ∧ Rd w A (bc bs) ∧ ∀ b off, A = some ⟨b, off, none⟩ → base ≤ b := by
  rw [Nat.zero_add, List.nil_append] at h
  subst hm
  obtain ⟨A, c, rfl, h1, _, _, h2⟩ := own_form h
  refine ⟨A, c, rfl, h1, h2, fun b off e => ?_⟩
  rcases h.2 with ⟨h3, _⟩ | ⟨g, cap, cur, h3, hb, _⟩
  · injection h3 with h3; rw [e] at h3; cases h3
  · injection h3 with h3
    rw [e] at h3
    injection h3 with h3
    injection h3 with h3
    omega
theorem dmeth (a : Addr) (w : World) : (method 192 55 (.pointer (some a)) "Write").run Try.prog w = .ok (53, .pointer (some a)) w := by kernel_rfl
theorem dmethC (a : Addr) (w : World) : (method 192 55 (.pointer (some a)) "Close").run Try.prog w = .ok (52, .pointer (some a)) w := by kernel_rfl
theorem dahead (a : Addr) (w : World) : (nilAhead 192 55 (.pointer (some a)) "Write").run Try.prog w = .ok (some false) w := by kernel_rfl

/-- the length of all parts ahead of k -/
def sumTo (bss : List (List UInt8)) (k : Nat) : Nat := (bss.take k).flatten.length
theorem sumTo_le (bss : List (List UInt8)) (k : Nat) : sumTo bss k ≤ bss.flatten.length := by
  unfold sumTo
  conv => rhs; rw [← List.take_append_drop k bss]
  rw [List.flatten_append, List.length_append]; omega
theorem sumTo_succ {bss : List (List UInt8)} {k : Nat} {bs : List UInt8} (h : bss[k]? = some bs) : sumTo bss (k + 1) = sumTo bss k + bs.length := by
  unfold sumTo
  rw [take_snoc h, List.flatten_append, List.length_append]; simp
theorem flat_succ {bss : List (List UInt8)} {k : Nat} {bs : List UInt8} (h : bss[k]? = some bs) : (bss.take (k + 1)).flatten = (bss.take k).flatten ++ bs := by
  rw [take_snoc h, List.flatten_append]; simp

theorem far_of {S : Snk} {B D g : Nat} {v0 v : Value} {w0 w : World} {ds : List UInt8} (h : Dst S B D g v0 w0 v w ds) {b : Nat} (hb : w.heap.size ≤ b) : b ≠ D ∧ b ≠ g ∧ some b ≠ v.ownBlock := by
  have h1 := h.ltD
  have h2 := h.ltg
  refine ⟨by omega, by omega, fun e => ?_⟩
  have := (own_lt h.sk.own b e.symm).2
  omega

set_option maxHeartbeats 2000000 in
set_option maxRecDepth 100000 in
theorem writeParts (S : Snk) (hS : S.Ok) (D g : Nat) (v : Value) (wo w : World) (hd : Dst S wo.heap.size D g v w v w []) (hbel : Below wo.heap.size wo w) (A : Option Addr) (c : Nat) (ps : List Value) (bss : List (List UInt8)) (hr : Rd wo A ps) (hp : Parts wo ps bss) (hl : bss.flatten.length ≤ 1000000000) (hn : bss.length ≤ 1000000000) :
    Calls Try.prog 22 #[.iface 55 (.pointer (some ⟨D, 0, none⟩)), .slice A bss.length c] w fun e w' => e = .returned (.int .i64 (bss.flatten.length : Int)) ∧ ∃ v', Dst S wo.heap.size D g v w v' w' bss.flatten := by
  have HD := Lib.hid hd
  have HB := Lib.hid hbel
  have HR := Lib.hid hr
  have HP := Lib.hid hp
  clear hd hbel hr hp
  go_enter Try.func22, Try.ntmps22
  go_wp2
  go_loopw [5, 12] (fun s i wr => ∃ k : Nat, ∃ v', k ≤ bss.length ∧ i = .int .i64 k ∧ s = .int .i64 (sumTo bss k : Int) ∧ Dst S wo.heap.size D g v w v' wr (bss.take k).flatten) (fun _ i _ => bss.length - (intOf i).toNat)
  case atStart => exact ⟨0, v, Nat.zero_le _, rfl, rfl, HD.out⟩
  case round =>
    obtain ⟨k, v', hk, rfl, rfl, hd⟩ := hrel
    have hs := sumTo_le bss k
    have hbw : Below wo.heap.size wo wr := HB.out.trans (hd.gr.below HD.out.ltD.1 HD.out.ltg.1 (fun j hj => (own_lt HD.out.sk.own j hj).1) HB.out.size)
    have HDk := Lib.hid hd
    have HBk := Lib.hid hbw
    clear hd hbw
    by_cases hlt : k < bss.length
    · obtain ⟨bs, hbs⟩ : ∃ bs, bss[k]? = some bs := ⟨_, List.getElem?_eq_getElem hlt⟩
      obtain ⟨Ak, ck, hpk, hck, hcm, hrk⟩ := HP.out.2 k bs hbs
      obtain ⟨bp, op, rfl, hbp, hcell⟩ := (HR.out.below HBk.out).at_ hpk
      have HRK := Lib.hid (hrk.below HBk.out)
      have HBS := Lib.hid hbs
      have hs1 := sumTo_le bss (k + 1)
      rw [sumTo_succ hbs] at hs1
      have hki0 : (0 : Int) ≤ (k : Int) := by omega
      have hki : (k : Int) < (bss.length : Int) := by omega
      have HLK := Lib.hid (show (bss.take k).flatten.length = sumTo bss k from rfl)
      clear hbs hpk hrk
      have hmeth := dmeth
      have hahead := dahead
      go_wp2
      go_region_law (first
        | (refine step_app rfl (.const (.slice none 0 0)) (.tmp 18) rfl wr.heap.size _ _ [] rfl (World.ownsRow_nil _ _ _ _) Ak bs.length ck (bc bs) rfl HRK.out (bc_length bs) (bc_one _) (by omega) (Nat.le_refl _) ?_; intro v1 w1 hown1 hg1 hm1; obtain ⟨A1, c1, hv1, hc1, hr1, hb1⟩ := own_new hown1 rfl; subst hv1; have HD1 := Lib.hid ((HDk.out.drew hS).grown hg1); have HCALL := Lib.hid (dwriteR S hS wo.heap.size D g v' w1 _ HD1.out.restart A1 bs.length c1 bs rfl (by rw [HLK.out]; omega) hc1 hr1 (fun b off e => far_of HDk.out (hb1 b off e))); clear hown1 hg1 hm1 hr1 hb1)
        | (go_simp; go_at_call 53; refine HCALL.out.mono ?_; rintro e w2 ⟨rfl, v2, hd2⟩; have HD2 := Lib.hid hd2; clear hd2))
      all_goals
        go_wp2
        go_roundw
        case rel => exact ⟨k + 1, v2, by omega, by go_num, by rw [sumTo_succ HBS.out]; go_num, by rw [flat_succ HBS.out]; exact HD1.out.trans HD2.out⟩
        case measure => simp [intOf]; omega
    · obtain rfl : k = bss.length := by omega
      have HS := Lib.hid (show sumTo bss bss.length = bss.flatten.length by unfold sumTo; rw [List.take_length])
      go_wp2
      go_ret
      rw [HS.out]
      exact ⟨rfl, v', by have := HDk.out; rwa [List.take_length] at this⟩

/-- the block of a new dumper -/
def newD (S : Snk) (g : Nat) : Obj := .cells (dcs (S.iv g) (List.replicate 18 0) (List.replicate 14 0) 0 0 false).toArray 60 (0, 0)
set_option maxHeartbeats 1000000 in
theorem dumper_ (S : Snk) (g : Nat) (w : World) : Calls Try.prog 21 #[S.iv g] w fun e w' => e = .returned (.iface 55 (.pointer (some ⟨w.heap.size, 0, none⟩))) ∧ w' = w.alloc (newD S g) := by
  go_enter Try.func21, Try.ntmps21
  go_wp2
  go_ret
  exact ⟨rfl, rfl⟩
end Go.Proofs.Ytbioeknobmcbiaa
