/-
  What is proved here: what impl.Uvarint and impl.Varint give back at a slice that reads as bytes, and the walks of FnLast and FnSkip. Conditions: a list has at most 17592186043904 numbers.
-/
import Derived.Test.YtnlndimojibimaaShelf
import Derived.Test.YtnlndimojibimaaEnds
import Derived.Test.YtnlndimojibimaaSpec
namespace Go.Proofs.Ytnlndimojibimaa
open Go.RowKit

theorem bin_uvarint (A : Option Addr) (n c : Nat) (bs : List UInt8) (w : World) (hr : Rd w A (bc bs)) (hn : bs.length = n) :
    Calls Try.prog 39 #[.slice A n c] w fun e w' => e = .returned (.tuple #[.int .u64 (Lib.uvarintDec bs).1, .int .i64 (Lib.uvarintDec bs).2]) ∧ w = w' := by
  subst hn
  rcases hr with h | ⟨b, off, rfl, _, hc⟩
  · have h0 : bs = [] := by simpa [bc, Lib.byteCells] using h
    subst h0
    exact (Try.binary_Uvarint_empty A c w).mono fun e w' h => ⟨h.1, h.2.symm⟩
  · exact (Try.binary_Uvarint b off bs.length c bs w rfl (fun j hj => hc j _ (by simp [bc, Lib.byteCells, List.getElem?_eq_getElem hj]))).mono fun e w' h => ⟨h.1, h.2.symm⟩

theorem bin_varint (A : Option Addr) (n c : Nat) (bs : List UInt8) (w : World) (hr : Rd w A (bc bs)) (hn : bs.length = n) :
    Calls Try.prog 40 #[.slice A n c] w fun e w' => e = .returned (.tuple #[.int .i64 (Lib.varintDec bs).1, .int .i64 (Lib.varintDec bs).2]) ∧ w = w' := by
  subst hn
  rcases hr with h | ⟨b, off, rfl, _, hc⟩
  · have h0 : bs = [] := by simpa [bc, Lib.byteCells] using h
    subst h0
    exact (Try.binary_Varint_empty A c w).mono fun e w' h => ⟨h.1, h.2.symm⟩
  · exact (Try.binary_Varint b off bs.length c bs w rfl (fun j hj => hc j _ (by simp [bc, Lib.byteCells, List.getElem?_eq_getElem hj]))).mono fun e w' h => ⟨h.1, h.2.symm⟩

theorem uvarintZ (A : Option Addr) (n c : Nat) (bs : List UInt8) (x : Nat) (m : Int) (w : World) (hr : Rd w A (bc bs)) (hn : bs.length = n) (hd : Lib.uvarintDec bs = (x, m)) :
    Calls Try.prog 32 #[.slice A n c] w fun e w' => e = .returned (.tuple #[.int .u64 (x : Int), .int .i64 m]) ∧ w = w' := by
  have h := bin_uvarint A n c bs w hr hn
  rw [hd] at h
  have H := Lib.hid h
  clear h hd hr hn
  go_enter Try.func32, Try.ntmps32
  go_wp2_with fail
  refine H.out.mono ?_
  rintro e w' ⟨rfl, rfl⟩
  go_wp2
  go_ret2
  exact ⟨rfl, rfl⟩

theorem Rd.drop {w : World} {b off : Nat} {xs : List Value} (h : Rd w (some ⟨b, off, none⟩) xs) (k : Nat) : Rd w (some ⟨b, off + k, none⟩) (xs.drop k) := by
  rcases h with rfl | ⟨b', off', hA, hb, hc⟩
  · exact .inl (by simp)
  · injection hA with hA
    injection hA with h1 h2
    subst h1 h2
    refine .inr ⟨b, off + k, rfl, hb, fun j u hu => ?_⟩
    rw [Nat.add_assoc]
    exact hc (k + j) u (by rw [← hu, List.getElem?_drop])

theorem bc_drop (bs : List UInt8) (k : Nat) : (bc bs).drop k = bc (bs.drop k) := by simp [bc, Lib.byteCells]

/-- the last number's place -/
theorem last_split {zs : List Nat} (h : 0 < zs.length) : ∃ (init : List Nat) (x : Nat), zs = init ++ [x] ∧ zs[zs.length - 1]? = some x := by
  obtain ⟨init, x, rfl⟩ : ∃ init x, zs = init ++ [x] := ⟨zs.dropLast, zs.getLast (by intro e; simp [e] at h), (List.dropLast_concat_getLast _).symm⟩
  exact ⟨init, x, rfl, by simp⟩

theorem enc_last_lt (l : List Nat) (h : 0 < (encL l).length) : ∃ b, (encL l)[(encL l).length - 1]? = some b ∧ b.toNat < 128 := by
  rcases Nat.eq_zero_or_pos l.length with h0 | h0
  · have : l = [] := List.eq_nil_of_length_eq_zero h0
    subst this
    simp [encL] at h
  · obtain ⟨init, x, rfl, _⟩ := last_split h0
    obtain ⟨pre, b, he, _, hb⟩ := uvarint_split x
    refine ⟨b, ?_, hb⟩
    rw [encL_snoc, he, ← List.append_assoc]
    simp

set_option maxHeartbeats 2000000 in
set_option maxRecDepth 100000 in
theorem walkFnLast (A : Option Addr) (c : Nat) (zs : List Nat) (w : World) (hr : Rd w A (nc zs)) (hz : ∀ x ∈ zs, x < 18446744073709551616) (hl : zs.length ≤ 17592186043904) :
    Calls Try.prog 16 #[.slice A zs.length c] w fun e w' => e = .returned (.bool true) ∧ Below w.heap.size w w' := by
  by_cases h0 : zs.length = 0
  · rw [h0]
    go_enter Try.func16, Try.ntmps16
    go_wp2
    go_ret
    exact ⟨rfl, Below.refl _ _⟩
  · have hpos : 0 < zs.length := by omega
    have hpt : ((zs.length : Int) == 0) = false := beq_eq_false_iff_ne.2 (by omega)
    obtain ⟨init, x, hzs, hlast⟩ := last_split hpos
    have hx64 := hz x (mem_of_at hlast)
    obtain ⟨pre, b, he, hp, hb, h9, h1, hv⟩ := uvarint_parts hx64
    have hbuf : encL zs = encL init ++ Lib.uvarint x := by rw [hzs, encL_snoc]
    have hblen : (encL zs).length = (encL init).length + pre.length + 1 := by rw [hbuf, he, List.length_append, List.length_append, List.length_singleton]; omega
    have hend : 0 < (encL init).length → ∃ b, (encL zs)[(encL init).length - 1]? = some b ∧ b.toNat < 128 := by
      intro h
      obtain ⟨b, h1, h2⟩ := enc_last_lt init h
      exact ⟨b, by rw [hbuf, List.getElem?_append_left (by omega)]; exact h1, h2⟩
    have hmid : ∀ j, (encL init).length ≤ j → j < (encL init).length + pre.length → ∃ b, (encL zs)[j]? = some b ∧ 128 ≤ b.toNat := by
      intro j h1 h2
      refine ⟨pre[j - (encL init).length]'(by omega), ?_, hp _ (List.getElem_mem _)⟩
      rw [hbuf, he, List.getElem?_append_right h1, List.getElem?_append_left (by omega), List.getElem?_eq_getElem]
    have hdrop : (encL zs).drop (encL init).length = Lib.uvarint x := by rw [hbuf, List.drop_left]
    have hdec : Lib.uvarintDec (Lib.uvarint x) = (x, ((Lib.uvarint x).length : Int)) := by have := dec_enc hx64 []; rwa [List.append_nil] at this
    have hlenx : (Lib.uvarint x).length = pre.length + 1 := by rw [he, List.length_append, List.length_singleton]
    have hbound := encL_length_le zs hz
    have HD : Hid (Lib.uvarintDec (Lib.uvarint x) = (x, ((pre.length : Int) + 1))) := by rw [hdec, hlenx]; rfl
    have HDR := Lib.hid hdrop
    have HLX := Lib.hid hlenx
    have HEND := Lib.hid hend
    have HMID := Lib.hid hmid
    have HBL := Lib.hid hblen
    have hble : (encL init).length + pre.length + 1 ≤ 10 * zs.length := by omega
    have hcx : (nc zs)[zs.length - 1]? = some (.int .u64 (x : Int)) := by simp [nc, hlast]
    have HCX := Lib.hid hcx
    have HR := Lib.hid hr
    have HZ := Lib.hid hz
    clear hcx hblen hdrop hdec hlenx hend hmid hbuf he hv hzs hlast hp hbound hr hz
    go_enter Try.func16, Try.ntmps16
    go_wp2_with fail
    refine (appendList A c zs _ HR.out HZ.out (by omega)).mono ?_
    rintro e w1 ⟨v1, rfl, hown1, hb1⟩
    rw [HBL.out] at hown1
    obtain ⟨g, c1, rfl, hg1, hg2, hn1, _⟩ := own_some hown1 (by omega)
    have HR1 := Lib.hid ((own_rd hown1).elim fun A h => h.elim fun c h => (by obtain ⟨h1, _, _, h2⟩ := h; injection h1 with h1; rw [← h1] at h2; exact h2 : Rd w1 (some ⟨g, 0, none⟩) (bc (encL zs))))
    clear hown1
    generalize (encL init).length = P at *
    generalize pre.length = L at *
    go_wp2
    go_loop [4] (fun i => ∃ k : Nat, P ≤ k ∧ k ≤ P + L ∧ i = .int .i64 k) (fun i => (intOf i).toNat)
    case atStart => exact ⟨P + L, by omega, by omega, by go_num⟩
    case round =>
      obtain ⟨k, hk1, hk2, rfl⟩ := hrel
      by_cases hPk : P < k
      · obtain ⟨d, hd, hd128⟩ := HMID.out (k - 1) (by omega) (by omega)
        obtain ⟨g', off', hA, _, hcell⟩ := HR1.out.at_ (show (bc (encL zs))[k - 1]? = some (.int .u8 (d.toNat : Int)) by simp [bc, Lib.byteCells, hd])
        injection hA with hA
        injection hA with e1 e2
        subst e1 e2
        obtain ⟨k, rfl⟩ : ∃ q, k = q + 1 := ⟨k - 1, by omega⟩
        have hcell' : w1.cell? ⟨g, k, none⟩ = some (.int .u8 (d.toNat : Int)) := by simpa using hcell
        clear hcell hd
        go_wp2
        go_round
        case rel => exact ⟨k, by omega, by omega, by go_num⟩
        case measure => simp [intOf]
      · obtain rfl : P = k := by omega
        have HRX := Lib.hid (HR.out.below hb1)
        obtain ⟨gl, offl, rfl, _, hcl⟩ := HRX.out.at_ HCX.out
        have HU : Hid (Rd w1 (some ⟨g, P, none⟩) (bc (Lib.uvarint x))) := by
          have h := HR1.out.drop P
          rw [bc_drop, HDR.out, Nat.zero_add] at h
          exact h
        have hcp : ¬ c1 = P := by omega
        obtain ⟨n, hn⟩ : ∃ n, zs.length = n + 1 := ⟨zs.length - 1, by omega⟩
        have hcl' : w1.cell? ⟨gl, offl + n, none⟩ = some (.int .u64 (x : Int)) := by rw [hn] at hcl; exact hcl
        clear hcl
        rw [hn]
        have HN := Lib.hid hn
        have hnl : n < 17592186043904 := by omega
        rw [hn] at hpt hpos
        clear hn
        by_cases hP0 : P = 0
        · subst hP0
          go_wp2_with fail
          refine (uvarintZ _ _ _ (Lib.uvarint x) x ((L : Int) + 1) _ HU.out HLX.out HD.out).mono ?_
          rintro e w' ⟨rfl, rfl⟩
          go_wp2
          go_ret
          exact ⟨ret_bool (by simp), hb1⟩
        · obtain ⟨d, hd, hd128⟩ := HEND.out (by omega)
          obtain ⟨g', off', hA, _, hcell⟩ := HR1.out.at_ (show (bc (encL zs))[P - 1]? = some (.int .u8 (d.toNat : Int)) by simp [bc, Lib.byteCells, hd])
          injection hA with hA
          injection hA with e1 e2
          subst e1 e2
          obtain ⟨k, rfl⟩ : ∃ q, P = q + 1 := ⟨P - 1, by omega⟩
          have hcell' : w1.cell? ⟨g, k, none⟩ = some (.int .u8 (d.toNat : Int)) := by simpa using hcell
          clear hcell hd
          go_wp2_with fail
          refine (uvarintZ _ _ _ (Lib.uvarint x) x ((L : Int) + 1) _ HU.out ?_ HD.out).mono ?_
          · rw [HLX.out]; omega
          rintro e w' ⟨rfl, rfl⟩
          go_wp2
          go_ret
          exact ⟨ret_bool (by simp; omega), hb1⟩

/-- What is left to skip: the rest of a number, and the numbers behind it. -/
def Left (zs : List Nat) (k j : Nat) (rest : List UInt8) : Prop :=
  ∃ (pre : List UInt8) (b : UInt8), rest = pre ++ b :: encL (zs.drop (j + 1)) ∧ (∀ d ∈ pre, 128 ≤ d.toNat) ∧ b.toNat < 128 ∧ (j = k → rest = encL (zs.drop k))

theorem left_start {zs : List Nat} {k j x : Nat} (hx : zs[j]? = some x) : Left zs k j (encL (zs.drop j)) := by
  obtain ⟨pre, b, he, hp, hb⟩ := uvarint_split x
  have hd : zs.drop j = x :: zs.drop (j + 1) := by
    rw [List.drop_eq_getElem?_toList_append, hx]; rfl
  refine ⟨pre, b, ?_, hp, hb, (fun h => by rw [h])⟩
  rw [hd, encL_cons, he]
  simp

theorem left_step {zs : List Nat} {k j : Nat} {rest : List UInt8} (h : Left zs k j rest) (hj : j < k) (hk : k < zs.length) :
    ∃ (b : UInt8) (r : List UInt8), rest = b :: r ∧ 1 ≤ r.length ∧ ((b.toNat < 128 ∧ Left zs k (j + 1) r) ∨ (128 ≤ b.toNat ∧ Left zs k j r)) := by
  obtain ⟨pre, b, hr, hp, hb, _⟩ := h
  cases pre with
  | nil =>
    refine ⟨b, encL (zs.drop (j + 1)), by rw [hr]; rfl, ?_, .inl ⟨hb, left_start (List.getElem?_eq_getElem (by omega))⟩⟩
    have := encL_length_ge (zs.drop (j + 1))
    rw [List.length_drop] at this
    omega
  | cons d pre =>
    refine ⟨d, pre ++ b :: encL (zs.drop (j + 1)), by rw [hr]; rfl, by simp; omega, .inr ⟨hp d (by simp), pre, b, rfl, (fun e he => hp e (by simp [he])), hb, (fun h => by omega)⟩⟩

end Go.Proofs.Ytnlndimojibimaa
