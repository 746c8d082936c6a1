/-
  What is proved here: the walk of FnDumpOneByte: it returns true. Conditions: at most 1048576 bytes.
-/
import Derived.Test.YtbioeknobmcbiaaLen
namespace Go.Proofs.Ytbioeknobmcbiaa
open Go.RowKit

theorem hexd_inj {n m : Nat} (h : hexd n = hexd m) : n % 16 = m % 16 := by
  have e : ∀ a b : Fin 16, hexd a.1 = hexd b.1 → a = b := by decide +kernel
  have h2 := e ⟨n % 16, Nat.mod_lt _ (by decide)⟩ ⟨m % 16, Nat.mod_lt _ (by decide)⟩ (by simp only [hexd_mod]; exact h)
  exact congrArg Fin.val h2
theorem hexd_byte {b c : UInt8} (h1 : hexd (b.toNat / 16) = hexd (c.toNat / 16)) (h2 : hexd b.toNat = hexd c.toNat) : b = c := by
  have e1 := hexd_inj h1
  have e2 := hexd_inj h2
  have l1 := b.toNat_lt
  have l2 := c.toNat_lt
  exact UInt8.toNat_inj.1 (by omega)
theorem line_set {a : Nat} {l : List UInt8} {i : Nat} {d b : UInt8} (hl : l.length ≤ 16) (hd : l[i]? = some d) : lineT a l = lineT a (l.set i b) ↔ d = b := by
  have hi : i < l.length := (List.getElem?_eq_some_iff.1 hd).1
  constructor
  · intro h
    have h1 := line_at a l hl i d hd []
    have h2 := line_at a (l.set i b) (by rw [List.length_set]; exact hl) i b (List.getElem?_set_self hi) []
    rw [List.append_nil] at h1 h2
    rw [h] at h1
    rw [h1.1, h1.2] at h2
    obtain ⟨h3, h4⟩ := h2
    injection h3 with h3
    injection h4 with h4
    exact hexd_byte h3 h4
  · rintro rfl
    have : l.set i d = l := by
      rw [← (List.getElem?_eq_some_iff.1 hd).2]; exact List.set_getElem_self hi
    rw [this]
/-- a byte that is changed changes one line -/
theorem one_byte (data : List UInt8) (k : Nat) (d b : UInt8) (hd : data[k]? = some d) : ∃ a l l' z : List UInt8, dumpFrom 0 data = a ++ (l ++ z) ∧ dumpFrom 0 (data.set k b) = a ++ (l' ++ z) ∧ a.length = 79 * (k / 16) ∧ l'.length = l.length ∧ 0 < l.length ∧
    (if (dumpFrom 0 data).length < a.length + 79 then (dumpFrom 0 data).length else a.length + 79) = a.length + l.length ∧ (l = l' ↔ d = b) := by
  have hk : k < data.length := (List.getElem?_eq_some_iff.1 hd).1
  have hP : (data.take (16 * (k / 16))).length = 16 * (k / 16) := by rw [List.length_take]; omega
  have hPm : (data.take (16 * (k / 16))).length % 16 = 0 := by rw [hP]; omega
  have hR : (data.drop (16 * (k / 16))).length = data.length - 16 * (k / 16) := List.length_drop
  have hRd : (data.drop (16 * (k / 16)))[k % 16]? = some d := by
    rw [List.getElem?_drop, show 16 * (k / 16) + k % 16 = k by omega]; exact hd
  have e1 : data = data.take (16 * (k / 16)) ++ data.drop (16 * (k / 16)) := (List.take_append_drop _ _).symm
  have e2 : data.set k b = data.take (16 * (k / 16)) ++ (data.drop (16 * (k / 16))).set (k % 16) b := by
    conv => lhs; rw [e1]
    rw [List.set_append_right _ _ (by rw [hP]; omega), hP, show k - 16 * (k / 16) = k % 16 by omega]
  have hx : dumpFrom 0 data = dumpFrom 0 (data.take (16 * (k / 16))) ++ dumpFrom (0 + (data.take (16 * (k / 16))).length) (data.drop (16 * (k / 16))) := by
    conv => lhs; rw [e1]
    exact dump_append 0 _ _ hPm
  have hy : dumpFrom 0 (data.set k b) = dumpFrom 0 (data.take (16 * (k / 16))) ++ dumpFrom (0 + (data.take (16 * (k / 16))).length) ((data.drop (16 * (k / 16))).set (k % 16) b) := by
    rw [e2]
    exact dump_append 0 _ _ hPm
  have hla : (dumpFrom 0 (data.take (16 * (k / 16)))).length = 79 * (k / 16) := by
    rw [dump_len, hP, show 16 * (k / 16) / 16 = k / 16 by omega, if_pos (by omega)]; rfl
  generalize data.drop (16 * (k / 16)) = R at *
  generalize data.take (16 * (k / 16)) = P at *
  rw [dump_step _ R (by omega)] at hx
  rw [dump_step _ (R.set (k % 16) b) (by rw [List.length_set]; omega), List.take_set, List.drop_set_of_lt (by omega)] at hy
  have hll : (lineT (0 + P.length) (R.take 16)).length = 63 + (R.take 16).length := lineT_len _ _ (List.length_take_le _ _)
  have hll' : (lineT (0 + P.length) ((R.take 16).set (k % 16) b)).length = 63 + (R.take 16).length := by
    rw [lineT_len _ _ (by rw [List.length_set]; exact List.length_take_le _ _), List.length_set]
  refine ⟨_, _, _, _, hx, hy, hla, by rw [hll, hll'], by omega, ?_, line_set (List.length_take_le _ _) (by rw [List.getElem?_take, if_pos (by omega)]; exact hRd)⟩
  rw [hll, hla, dump_len 0 data, List.length_take, hR]
  by_cases h16 : data.length - 16 * (k / 16) < 16
  · have q1 : data.length / 16 = k / 16 := by omega
    have q2 : data.length % 16 = data.length - 16 * (k / 16) := by omega
    rw [q1, q2, if_neg (show ¬ data.length - 16 * (k / 16) = 0 by omega), if_pos (by omega), Nat.min_eq_right (by omega)]
  · rw [if_neg (by split <;> omega), Nat.min_eq_left (by omega)]

theorem bstr_extract (L : List UInt8) (i j : Nat) : (bstr L).extract i j = bstr ((L.take j).drop i) := by
  apply ByteArray.ext
  simp [List.drop_take]
theorem own_store {w : World} {base n c k : Nat} {A : Option Addr} {data : List UInt8} (h : w.ownsRow base 5 1 (.slice A n c) n (bc data)) (hk : k < n) :
    ∃ g, A = some ⟨g, 0, none⟩ ∧ base ≤ g ∧ g < w.heap.size ∧ (∃ u, w.cell? ⟨g, k, none⟩ = some u) ∧ w.frozen? ⟨g, k, none⟩ = false ∧ ∀ b : UInt8, Rd (w.setCell ⟨g, k, none⟩ (.int .u8 (b.toNat : Int))) A (bc (data.set k b)) := by
  have hln := h.1
  rw [bc_length] at hln
  rcases h.2 with ⟨_, h0⟩ | ⟨g, cap, cur, hv, hb, hh, hnc, hcm, hcs, htk⟩
  · omega
  · injection hv with hA
    have hcell : ∀ j u, (bc data)[j]? = some u → w.cell? ⟨g, j, none⟩ = some u := fun j u hu => by
      have := h.cells (g := g) (by rw [hA]; rfl) j u hu
      rw [addr_add] at this
      simpa using this
    have hkd : (bc data)[k]? = some ((bc data)[k]'(by rw [bc_length]; omega)) := List.getElem?_eq_getElem _
    refine ⟨g, hA, hb, blk_lt hh, ⟨_, hcell k _ hkd⟩, blk_free hh k, fun b => .inr ⟨g, 0, hA, by rw [World.size_setCell]; exact blk_lt hh, fun j u hu => ?_⟩⟩
    rw [Nat.zero_add]
    rw [← bc_set] at hu
    by_cases hjk : k = j
    · subst hjk
      rw [List.getElem?_set_self (by rw [bc_length]; omega)] at hu
      injection hu with hu
      subst hu
      exact World.cell?_setCell_same _ _ _ (hcell k _ hkd)
    · rw [List.getElem?_set_ne hjk] at hu
      rw [World.cell?_setCell_other _ _ _ _ (by intro e; injection e with _ e; exact hjk e)]
      exact hcell j u hu

theorem bel_store {w w1 : World} {g k : Nat} {u : Value} (h : Below w.heap.size w w1) (hg : w.heap.size ≤ g) : Below w.heap.size w (w1.setCell ⟨g, k, none⟩ u) := h.setCell hg _

theorem one_str {data : List UInt8} {k : Nat} {d b : UInt8} (hd : data[k]? = some d) {X Y : ByteArray} (hX : bstr (dumpFrom 0 data) = X) (hY : bstr (dumpFrom 0 (data.set k b)) = Y) :
    ∃ F T : Nat, 79 * ((k : Int) / 16) = (F : Int) ∧ Y.size = X.size ∧ F < T ∧ T ≤ X.size ∧ min ((F : Int) + 79) (X.size : Int) = (T : Int) ∧ Y.extract 0 F = X.extract 0 F ∧ Y.extract T X.size = X.extract T X.size ∧
      (d = b → Y.extract F T = X.extract F T) ∧ (d ≠ b → ¬ (X.extract F T).toList = (Y.extract F T).toList) ∧ X.size ≤ 79 * data.length := by
  obtain ⟨ta, tl_, tl', tz, hx, hy, hla, hll, hlp, hto, hiff⟩ := one_byte data k d b hd
  subst hX
  subst hY
  have hm : ∀ u v z : List UInt8, ((u ++ (v ++ z)).take (u.length + v.length)).drop u.length = v := fun u v z => by
    rw [← List.append_assoc, ← List.length_append, List.take_left, List.drop_left]
  have hz : ∀ u v z : List UInt8, ((u ++ (v ++ z)).take (u.length + (v.length + z.length))).drop (u.length + v.length) = z := fun u v z => by
    rw [List.take_of_length_le (by simp), ← List.append_assoc, ← List.length_append, List.drop_left]
  have hdl := dump_len_le 0 data
  rw [hx] at hdl hto
  refine ⟨ta.length, ta.length + tl_.length, by omega, ?_, by omega, ?_, ?_, ?_, ?_, ?_, ?_, ?_⟩
  · rw [bstr_size, bstr_size, hx, hy]; simp [hll]
  · rw [bstr_size, hx]; simp
  · rw [bstr_size, hx]
    split at hto <;> omega
  · rw [bstr_extract, bstr_extract, hx, hy, List.take_left, List.take_left]
  · rw [bstr_size, bstr_extract, bstr_extract, hx, hy]
    have e : (ta ++ (tl_ ++ tz)).length = ta.length + (tl_.length + tz.length) := by simp
    rw [e, hz, ← hll, hz]
  · intro e
    rw [bstr_extract, bstr_extract, hx, hy, hiff.2 e]
  · intro e h
    rw [bstr_extract, bstr_extract, hx, hy, hm, ← hll, hm] at h
    have h1 := str_inj h
    have h2 := congrArg (fun z : ByteArray => z.data.toList) h1
    simp only at h2
    exact e (hiff.1 h2)
  · rw [bstr_size, hx]; exact hdl

theorem dump2 {w : World} {A : Option Addr} {c n : Nat} {data : List UInt8} (hn : data.length = n) (hr : Rd w A (bc data)) (hcap : n ≤ c) (hl : n ≤ 100000000) :
    Calls Try.prog 13 #[.slice A n c] w fun e w' => e = .returned (.string (bstr (dumpFrom 0 data))) ∧ Below w.heap.size w w' := by
  subst hn
  exact dump_ w A c data hr hcap hl
set_option maxHeartbeats 4000000 in
set_option maxRecDepth 100000 in
theorem walkFnDumpOneByte (A : Option Addr) (c : Nat) (data : List UInt8) (at_ : Int) (val : Nat) (w : World) (hr : Rd w A (bc data)) (hcap : data.length ≤ c) (hl : data.length ≤ 1048576) (hat0 : -9223372036854775808 ≤ at_) (hat1 : at_ ≤ 9223372036854775807) (hval : val < 256) :
    Calls Try.prog 9 #[.slice A data.length c, .int .i64 at_, .int .u8 val] w fun e w' => e = .returned (.bool true) ∧ Below w.heap.size w w' := by
  have HR := Lib.hid hr
  clear hr
  by_cases hneg : at_ < 0
  · go_enter Try.func9, Try.ntmps9
    go_wp2
    go_ret
    exact ⟨rfl, Below.refl _ _⟩
  by_cases hbig : (data.length : Int) ≤ at_
  · go_enter Try.func9, Try.ntmps9
    go_wp2
    go_ret
    exact ⟨rfl, Below.refl _ _⟩
  obtain ⟨k, rfl⟩ := Int.eq_ofNat_of_zero_le (show 0 ≤ at_ by omega)
  have hk : k < data.length := by omega
  have hki : (k : Int) < (data.length : Int) := by omega
  have hk0 : (0 : Int) ≤ (k : Int) := by omega
  clear hneg hbig hat0 hat1
  obtain ⟨b, rfl⟩ : ∃ b : UInt8, val = b.toNat := ⟨val.toUInt8, by simp [Nat.toUInt8]; omega⟩
  clear hval
  obtain ⟨d, hd⟩ : ∃ d, data[k]? = some d := ⟨_, List.getElem?_eq_getElem hk⟩
  obtain ⟨X, hX⟩ : ∃ X, bstr (dumpFrom 0 data) = X := ⟨_, rfl⟩
  obtain ⟨Y, hY⟩ : ∃ Y, bstr (dumpFrom 0 (data.set k b)) = Y := ⟨_, rfl⟩
  obtain ⟨F, T, hF, hYX, hFT, hTX, hT, hE1, hE2, hE3, hE4, hXl⟩ := one_str hd hX hY
  have HX := Lib.hid hX
  have HY := Lib.hid hY
  have HD := Lib.hid hd
  have H1 := Lib.hid hF
  have H2 := Lib.hid hYX
  have H3 := Lib.hid hT
  have H4 := Lib.hid hE1
  have H5 := Lib.hid hE2
  have H6 := Lib.hid hE3
  have H7 := Lib.hid hE4
  have HSL := Lib.hid (show (data.set k b).length = data.length by simp)
  clear hX hY hF hYX hT hE1 hE2 hE3 hE4 hd
  go_enter Try.func9, Try.ntmps9
  go_upto_region 4 with (at_builtin; refine wpList_app _ rfl _ _ rfl w.heap.size _ 0 [] rfl (World.ownsRow_nil _ _ _ _) A data.length c (bc data) rfl HR.out (bc_length data) (bc_one data) (by omega) (Nat.le_refl _) ?_; intro v1 w1 hown1 hg1 hm1; have B1 := Lib.hid ((Below.refl w.heap.size w).grown hg1 (Nat.le_refl _) (fun j hj => by cases hj)); obtain ⟨A1, c1, hv1, hc1, hr1, hb1⟩ := own_new hown1 rfl; subst hv1; have HO := Lib.hid (show w1.ownsRow w.heap.size 5 1 (.slice A1 data.length c1) data.length (bc data) by simpa using hown1); clear hown1 hg1 hm1 hr1 hb1)
  obtain ⟨g, rfl, hg, hgl, ⟨u, hcu⟩, hfu, hst⟩ := own_store HO.out hk
  have HST := Lib.hid (hst b)
  have B2 := Lib.hid (bel_store (k := k) (u := .int .u8 (b.toNat : Int)) B1.out hg)
  clear hst
  go_wp2_with fail
  refine (dump_ _ A c data (HR.out.below B2.out) hcap (by omega)).mono ?_
  rintro e w2 ⟨rfl, hb2⟩
  have B3 := Lib.hid (B2.out.trans (hb2.mono B2.out.size))
  have HR2 := Lib.hid (HST.out.below hb2)
  clear hb2 hcu hfu HST HO B1 B2
  rw [HX.out]
  go_wp2_with fail
  refine (dump2 HSL.out HR2.out hc1 (by omega)).mono ?_
  rintro e w3 ⟨rfl, hb3⟩
  have B4 := Lib.hid (B3.out.trans (hb3.mono B3.out.size))
  clear hb3 HR2 B3
  rw [HY.out]
  obtain ⟨bA, oA, rfl, hbA, hcA⟩ := (HR.out.below B4.out).at_ (bc_at HD.out)
  have hF := H1.out
  have hYX := H2.out
  have hE1 := H4.out
  have hE2 := H5.out
  have hFX : F ≤ X.size := by omega
  have hT := H3.out
  have hFT' : ¬ T ≤ F := by omega
  have hTi : (T : Int) ≤ (X.size : Int) := by omega
  have hFi : (F : Int) ≤ (X.size : Int) := by omega
  have hFTi : (F : Int) ≤ (T : Int) := by omega
  have hT0 : (0 : Int) ≤ (T : Int) := by omega
  have hF0 : (0 : Int) ≤ (F : Int) := by omega
  by_cases hdb : d = b
  · subst hdb
    have hE3 := H6.out rfl
    go_wp2
    go_quiet (fail)
    go_wp2
    go_quiet (fail)
    go_wp2
    go_ret
    exact ⟨ret_bool (by simp), below_dr (below_dr B4.out _) _⟩
  · have hE4 := H7.out hdb
    have hne : ((d.toNat : Int) == (b.toNat : Int)) = false := by
      rw [beq_eq_false_iff_ne]
      intro e
      exact hdb (UInt8.toNat_inj.1 (by omega))
    go_wp2
    go_quiet (fail)
    go_wp2
    go_quiet (fail)
    go_wp2
    go_ret
    exact ⟨ret_bool (by simp; exact hE4), below_dr (below_dr B4.out _) _⟩
end Go.Proofs.Ytbioeknobmcbiaa
