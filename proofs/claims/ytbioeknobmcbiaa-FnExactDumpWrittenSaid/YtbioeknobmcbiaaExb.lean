/-
  What is proved here: what the measuring, copying and comparing helpers over slices of slices do. Conditions: at most 1048576 parts where they are copied.
-/
import Derived.Test.YtbioeknobmcbiaaExa
namespace Go.Proofs.Ytbioeknobmcbiaa
open Go.RowKit

set_option maxHeartbeats 1000000 in
theorem szS (w : World) (A : Option Addr) (n c : Nat) (left : Nat) (hn : n ≤ 9223372036854775807) (hl : left ≤ 1048576) (z : Int) (hz : z = if n ≤ left then (left : Int) - (n : Int) else -1) :
    Calls Try.prog 26 #[.slice A n c, .int .i64 (left : Int)] w fun e w' => e = .returned (.int .i64 z) ∧ w = w' := by
  have HZ := Lib.hid hz
  clear hz
  by_cases h : n ≤ left
  · have hs : ¬ (left : Int) - (n : Int) < 0 := by omega
    go_enter Try.func26, Try.ntmps26
    go_wp2
    go_ret
    exact ⟨ret_int (by rw [HZ.out, if_pos h]), rfl⟩
  · have hs : (left : Int) - (n : Int) < 0 := by omega
    go_enter Try.func26, Try.ntmps26
    go_wp2
    go_ret
    exact ⟨ret_int (by rw [HZ.out, if_neg h]), rfl⟩

/-- what the measuring gives: what is left, or -1 -/
def SzP (n total : Nat) (w : World) (e : Ending) (w' : World) : Prop :=
  w = w' ∧ ((e = .returned (.int .i64 ((1048576 - n - total : Nat) : Int)) ∧ n + total ≤ 1048576) ∨ (e = .returned (.int .i64 (-1)) ∧ 1048576 < n + total))
set_option maxHeartbeats 1000000 in
theorem szSS (w : World) (A : Option Addr) (c : Nat) (ps : List Value) (bss : List (List UInt8)) (hr : Rd w A ps) (hp : Parts w ps bss) (hcap : bss.length ≤ c) (hcm : c ≤ maxLen) :
    Calls Try.prog 17 #[.slice A bss.length c, .int .i64 1048576] w (SzP bss.length bss.flatten.length w) := by
  unfold maxLen at hcm
  have HR := Lib.hid hr
  have HP := Lib.hid hp
  clear hr hp
  obtain ⟨n, hn⟩ : ∃ n, bss.length = n := ⟨_, rfl⟩
  obtain ⟨tot, ht⟩ : ∃ t, bss.flatten.length = t := ⟨_, rfl⟩
  rw [hn] at hcap
  rw [hn, ht]
  have HN := Lib.hid hn
  have HT := Lib.hid ht
  clear hn ht
  by_cases hbig : 1048576 < n
  · have hs : (1048576 : Int) - (n : Int) < 0 := by omega
    go_enter Try.func17, Try.ntmps17
    go_wp2
    go_ret
    exact ⟨rfl, .inr ⟨rfl, by omega⟩⟩
  · have hs : ¬ (1048576 : Int) - (n : Int) < 0 := by omega
    go_enter Try.func17, Try.ntmps17
    go_wp2
    clear hs
    go_loop [1, 5] (fun l i => ∃ (k left : Nat), k ≤ n ∧ i = .int .i64 k ∧ l = .int .i64 (left : Int) ∧ left + n + sumTo bss k = 1048576) (fun _ i => n - (intOf i).toNat)
    case atStart => exact ⟨0, 1048576 - n, Nat.zero_le _, rfl, by rw [show ((1048576 - n : Nat) : Int) = (1048576 : Int) - (n : Int) by omega], by simp [sumTo]; omega⟩
    case round =>
      obtain ⟨k, left, hk, rfl, rfl, hsum⟩ := hrel
      have hsl := sumTo_le bss k
      rw [HT.out] at hsl
      have hleft : left ≤ 1048576 := by omega
      have HS := Lib.hid hsum
      by_cases hlt : k < n
      · obtain ⟨bs, hbs⟩ : ∃ bs, bss[k]? = some bs := ⟨_, List.getElem?_eq_getElem (by rw [HN.out]; exact hlt)⟩
        obtain ⟨Ak, ck, hpk, hck, hcm', hrk⟩ := HP.out.2 k bs hbs
        unfold maxLen at hcm'
        obtain ⟨bp, op, rfl, hbp, hcell⟩ := HR.out.at_ hpk
        have hs1 := sumTo_le bss (k + 1)
        rw [sumTo_succ hbs, HT.out] at hs1
        have HSU := Lib.hid (sumTo_succ hbs)
        have hki0 : (0 : Int) ≤ (k : Int) := by omega
        have hki : (k : Int) < (n : Int) := by omega
        obtain ⟨len, hlen⟩ : ∃ len, bs.length = len := ⟨_, rfl⟩
        rw [hlen] at hcell hs1 hck
        have HLE := Lib.hid hlen
        clear hbs hpk hrk hlen hsum hsl
        by_cases hfit : len ≤ left
        · obtain ⟨l2, hl2⟩ : ∃ l2 : Nat, left - len = l2 := ⟨_, rfl⟩
          have HL2 := Lib.hid hl2
          clear hl2
          go_wp2_with (go_at_call 26; refine (szS _ Ak len ck left (by omega) hleft (l2 : Int) (by have := HL2.out; rw [if_pos hfit]; omega)).mono ?_; rintro e w' ⟨rfl, rfl⟩)
          go_round
          case rel => exact ⟨k + 1, l2, by omega, by go_num, rfl, by have h1 := HS.out; have h2 := HSU.out; have h3 := HLE.out; have h4 := HL2.out; omega⟩
          case measure => simp [intOf]; omega
        · go_wp2_with (go_at_call 26; refine (szS _ Ak len ck left (by omega) hleft (-1) (by rw [if_neg hfit])).mono ?_; rintro e w' ⟨rfl, rfl⟩)
          go_ret
          exact ⟨rfl, .inr ⟨rfl, by have h1 := HS.out; omega⟩⟩
      · have hfin : left + n + tot = 1048576 := by
          have h : sumTo bss k = tot := by rw [show k = bss.length by rw [HN.out]; omega, ← HT.out]; unfold sumTo; rw [List.take_length]
          omega
        have HF := Lib.hid hfin
        clear hsum hsl hfin
        go_wp2
        go_ret
        exact ⟨rfl, .inl ⟨ret_int (by have := HF.out; omega), by have := HF.out; omega⟩⟩

/-- the slices qs lie in blocks behind g -/
def Away (g : Nat) (qs : List Value) : Prop := ∀ q ∈ qs, ∀ (A : Option Addr) (n c b off : Nat), q = .slice A n c → A = some ⟨b, off, none⟩ → g < b
theorem Parts.set {w : World} {g k : Nat} {u : Value} {qs : List Value} {bss : List (List UInt8)} (h : Parts w qs bss) (ha : Away g qs) : Parts (w.setCell ⟨g, k, none⟩ u) qs bss := by
  refine ⟨h.1, fun j bs hj => ?_⟩
  obtain ⟨A, c, h1, h2, h3, h4⟩ := h.2 j bs hj
  refine ⟨A, c, h1, h2, h3, ?_⟩
  rcases h4 with h4 | ⟨b, off, rfl, hb, hc⟩
  · exact .inl h4
  · have hlt := ha _ (List.mem_of_getElem? h1) _ _ _ b off rfl rfl
    refine .inr ⟨b, off, rfl, by rw [World.size_setCell]; exact hb, fun i v hv => ?_⟩
    rw [World.cell?_of_block (w := w) (blk_far (show b ≠ g by omega) k u)]
    exact hc i v hv
theorem Parts.snoc {w : World} {ps : List Value} {bss : List (List UInt8)} (h : Parts w ps bss) {A : Option Addr} {bs : List UInt8} {c : Nat} (hc : bs.length ≤ c) (hm : c ≤ maxLen) (hr : Rd w A (bc bs)) :
    Parts w (ps ++ [.slice A bs.length c]) (bss ++ [bs]) := by
  refine ⟨by simp [h.1], fun j b hj => ?_⟩
  by_cases hlt : j < bss.length
  · rw [List.getElem?_append_left hlt] at hj
    obtain ⟨A', c', h1, h2⟩ := h.2 j b hj
    exact ⟨A', c', by rw [List.getElem?_append_left (by rw [h.1]; exact hlt)]; exact h1, h2⟩
  · rw [List.getElem?_append_right (by omega)] at hj
    have h0 : j - bss.length = 0 := by
      rcases Nat.eq_zero_or_pos (j - bss.length) with h | h
      · exact h
      · rw [List.getElem?_eq_none (by simp; omega)] at hj; cases hj
    rw [h0] at hj
    simp only [List.getElem?_cons_zero, Option.some.injEq] at hj
    subst hj
    refine ⟨A, c, ?_, hc, hm, hr⟩
    rw [List.getElem?_append_right (by rw [h.1]; omega), h.1, h0]
    rfl
theorem own_lt' {w : World} {B g n c : Nat} {e : TypeId} {xs : List Value} (h : w.ownsRow B e 1 (.slice (some ⟨g, 0, none⟩) n c) n xs) : B ≤ g ∧ g < w.heap.size := h.lt g rfl
theorem own_belowT {w w' : World} {base : Nat} {e : TypeId} {size n : Nat} {v : Value} {xs : List Value} (h : w.ownsRow base e size v n xs) (hb : Below w.heap.size w w') : w'.ownsRow base e size v n xs := own_below h hb
theorem ow_cell {w : World} {B g n c k : Nat} {e : TypeId} {xs : List Value} (h : w.ownsRow B e 1 (.slice (some ⟨g, 0, none⟩) n c) n xs) (hk : k < n) : ∃ u, w.cell? ⟨g, k, none⟩ = some u := by
  have hl := h.1
  rw [h.cellAt k (by omega)]
  exact at_lt (by omega)
theorem bc_ints (bs : List UInt8) : ∀ u ∈ bc bs, ∃ z : Int, u = .int .u8 z := by
  intro u hu
  obtain ⟨b, _, rfl⟩ := List.mem_map.1 hu
  exact ⟨_, rfl⟩
/-- toByteS, at bytes -/
theorem toByteN {w : World} {A : Option Addr} {c n : Nat} {bs : List UInt8} (hn : bs.length = n) (hr : Rd w A (bc bs)) (hl : n ≤ 16777216) :
    Calls Try.prog 27 #[.slice A n c] w fun e w' => ∃ A' c', e = .returned (.slice A' n c') ∧ n ≤ c' ∧ c' ≤ maxLen ∧ Rd w' A' (bc bs) ∧ (∀ b off, A' = some ⟨b, off, none⟩ → w.heap.size ≤ b) ∧ Below w.heap.size w w' := by
  have h := toByte A c (bc bs) w hr (bc_ints bs) (by rw [bc_length]; omega)
  rw [bc_length, hn] at h
  refine h.mono ?_
  rintro e w' ⟨v, rfl, hown, hb⟩
  obtain ⟨A', c', rfl, h1, h2, h3⟩ := own_rd hown
  refine ⟨A', c', rfl, h1, h2, h3, fun b off e => ?_, hb⟩
  subst e
  exact (own_lt hown b rfl).1

theorem info_row : (Try.prog.info? 25).map (fun i => (i.zero, i.size, i.bytes)) = some (some (.slice none 0 0), 1, 24) := by kernel_rfl
set_option maxHeartbeats 2000000 in
set_option maxRecDepth 100000 in
theorem toSS (w : World) (A : Option Addr) (c : Nat) (ps : List Value) (bss : List (List UInt8)) (hr : Rd w A ps) (hp : Parts w ps bss) (hn : bss.length ≤ 1048576) (ht : bss.flatten.length ≤ 1048576) :
    Calls Try.prog 18 #[.slice A bss.length c] w fun e w' => ∃ A' c' qs, e = .returned (.slice A' bss.length c') ∧ Rd w' A' qs ∧ Parts w' qs bss ∧ Below w.heap.size w w' := by
  obtain ⟨i0, hi, hz0, hz1, hz2⟩ := info_parts info_row
  obtain ⟨n, hnn⟩ : ∃ n, bss.length = n := ⟨_, rfl⟩
  rw [hnn] at hn
  rw [hnn]
  have HN := Lib.hid hnn
  have HR := Lib.hid hr
  have HP := Lib.hid hp
  have HTT := Lib.hid ht
  clear hnn hr hp ht
  have hmk : ∀ u : World, (Instr.makeSlice 22 (.int .i64 (n : Int)) (.int .i64 (n : Int))).run Try.prog u =
      .ok (.slice (some ⟨u.heap.size, 0, none⟩) n n) (u.alloc (.cells (madeCells #[.slice none 0 0] n) 25)) := fun u => by
    have h := run_make (P := Try.prog) u 22 25 i0 (.slice none 0 0) Try.underlying22 hi hz0 .i64 .i64 (n : Int) (n : Int) (by omega) (Int.le_refl _) (by rw [hz2]; omega) (by omega)
    rw [Int.toNat_natCast] at h
    simpa [hz1, Value.cells] using h
  have hst : (w.alloc (.cells (madeCells #[.slice none 0 0] n) 25)).ownsRow w.heap.size 25 1 (.slice (some ⟨w.heap.size, 0, none⟩) n n) n (List.replicate n (.slice none 0 0)) := by
    have h := World.ownsRow_lit (e := 25) (size := 1) w (madeCells #[.slice none 0 0] n) n (Nat.le_refl _) (by unfold maxLen; omega) (by rw [size_madeCells]; omega)
    rwa [toList_madeCells_one] at h
  have HST := Lib.hid hst
  clear hst hi hz0 hz1 hz2 i0
  go_enter Try.func18, Try.ntmps18
  go_wp2
  clear hmk
  go_loopw [4] (fun i wr => ∃ (k : Nat) (qs : List Value), k ≤ n ∧ i = .int .i64 k ∧ qs.length = k ∧ wr.ownsRow w.heap.size 25 1 (.slice (some ⟨w.heap.size, 0, none⟩) n n) n (qs ++ List.replicate (n - k) (.slice none 0 0)) ∧ Parts wr qs (bss.take k) ∧ Away w.heap.size qs ∧ Below w.heap.size w wr)
    (fun i _ => n - (intOf i).toNat)
  case atStart => exact ⟨0, [], Nat.zero_le _, rfl, rfl, HST.out, ⟨by simp, fun j bs h => by simp at h⟩, fun q hq => by simp at hq, (Below.refl _ _).alloc (Nat.le_refl _) _⟩
  case round =>
    clear HST
    obtain ⟨k, qs, hk, rfl, hqk, hown, hpq, haw, hbw⟩ := hrel
    have HO := Lib.hid hown
    have HQ := Lib.hid hpq
    have HAW := Lib.hid haw
    have HB := Lib.hid hbw
    have HQK := Lib.hid hqk
    have hgl : w.heap.size < wr.heap.size := (own_lt' hown).2
    clear hown hpq haw hbw hqk
    by_cases hlt : k < n
    · obtain ⟨bs, hbs⟩ : ∃ bs, bss[k]? = some bs := ⟨_, List.getElem?_eq_getElem (by rw [HN.out]; exact hlt)⟩
      obtain ⟨Ak, ck, hpk, hck, hcm', hrk⟩ := HP.out.2 k bs hbs
      obtain ⟨bp, op, rfl, hbp, hcell⟩ := (HR.out.below HB.out).at_ hpk
      have hki0 : (0 : Int) ≤ (k : Int) := by omega
      have hki : (k : Int) < (n : Int) := by omega
      have hbl : bs.length ≤ 16777216 := by
        have h1 := sumTo_le bss (k + 1)
        rw [sumTo_succ hbs] at h1
        have h2 := HTT.out
        omega
      obtain ⟨len, hlen⟩ : ∃ len, bs.length = len := ⟨_, rfl⟩
      rw [hlen] at hcell hbl
      have HLE := Lib.hid hlen
      have HBS := Lib.hid hbs
      have HRK := Lib.hid (hrk.below HB.out)
      clear hbs hpk hrk hlen hck hcm'
      go_wp2_with (go_at_call 27; refine (toByteN HLE.out HRK.out hbl).mono ?_; rintro e w2 ⟨A', c', rfl, hc', hm', hr', hb', hbel⟩; have HO2 := Lib.hid (own_belowT HO.out hbel); have HQ2 := Lib.hid (HQ.out.below hbel); have HR2 := Lib.hid hr'; have HB2 := Lib.hid (HB.out.trans (hbel.mono HB.out.size)); have HBB := Lib.hid hb'; have hx2 := ow_cell HO2.out hlt; obtain ⟨x2, hx2⟩ := hx2; have hf2 := HO2.out.frozenAt k; clear hr' hb' hbel hcell)
      go_roundw
      case rel =>
        have haw2 : Away w.heap.size (qs ++ [.slice A' len c']) := fun q hq => by
          rcases List.mem_append.1 hq with hq | hq
          · exact HAW.out q hq
          · rw [List.mem_singleton] at hq
            subst hq
            intro A0 n0 c0 b off he hA
            injection he with he
            have := HBB.out b off (he.trans hA)
            omega
        have hpq2 : Parts w2 (qs ++ [.slice A' len c']) (bss.take (k + 1)) := by
          rw [take_snoc HBS.out, ← HLE.out]
          exact HQ2.out.snoc (by rw [HLE.out]; exact hc') hm' HR2.out
        refine ⟨k + 1, qs ++ [.slice A' len c'], by omega, by go_num, by rw [List.length_append, HQK.out]; rfl, ?_, hpq2.set haw2, haw2, HB2.out.setCell (Nat.le_refl _) _⟩
        have h := (HO2.out.stored k (.slice A' len c')).1
        have e : (qs ++ List.replicate (n - k) (Value.slice none 0 0)).set k (.slice A' len c') = (qs ++ [.slice A' len c']) ++ List.replicate (n - (k + 1)) (.slice none 0 0) := by
          rw [List.set_append_right _ _ (by rw [HQK.out]; exact Nat.le_refl _), HQK.out, Nat.sub_self, show n - k = (n - (k + 1)) + 1 by omega, List.replicate_succ, List.set_cons_zero, List.append_assoc]
          rfl
        rw [e] at h
        exact h
      case measure => simp [intOf]; omega
    · obtain rfl : k = n := by omega
      have hfin : Rd wr (some ⟨w.heap.size, 0, none⟩) qs := by
        have h := HO.out
        rw [Nat.sub_self, List.replicate_zero, List.append_nil] at h
        obtain ⟨A', c', he, _, _, hr'⟩ := own_rd h
        injection he with he
        rw [he]
        exact hr'
      have hpf : Parts wr qs bss := by have h := HQ.out; rwa [List.take_of_length_le (by rw [HN.out]; exact Nat.le_refl _)] at h
      have HF := Lib.hid hfin
      have HPF := Lib.hid hpf
      clear hfin hpf
      go_wp2
      go_ret
      exact ⟨_, _, qs, rfl, HF.out, HPF.out, HB.out⟩
end Go.Proofs.Ytbioeknobmcbiaa
