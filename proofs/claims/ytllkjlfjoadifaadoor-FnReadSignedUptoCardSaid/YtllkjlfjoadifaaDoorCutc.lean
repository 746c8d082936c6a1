/-
  What is proved here: what laws.cut gives back: pieces that are the data, one behind the other. Conditions: at most 11000000 bytes of data, at most 17592186043904 lengths.
-/
import Derived.Test.YtllkjlfjoadifaaDoorBase
namespace Go.Proofs.YtllkjlfjoadifaaDoor
open Go.RowKit

/-- The cells ps are slices of bytes that read as bss. -/
def Parts (w : World) (ps : List Value) (bss : List (List UInt8)) : Prop :=
  ps.length = bss.length ∧ ∀ (j : Nat) (bs : List UInt8), bss[j]? = some bs → ∃ (A : Option Addr) (c : Nat), ps[j]? = some (Value.slice A bs.length c) ∧ bs.length ≤ c ∧ c ≤ maxLen ∧ Rd w A (bc bs)

theorem Parts.below {w w' : World} {ps : List Value} {bss : List (List UInt8)} (h : Parts w ps bss) (hb : Below w.heap.size w w') : Parts w' ps bss :=
  ⟨h.1, fun j bs hj => by obtain ⟨A, c, h1, h2, h3, h4⟩ := h.2 j bs hj; exact ⟨A, c, h1, h2, h3, h4.below hb⟩⟩
theorem Parts.nil {w : World} : Parts w [] [] := ⟨rfl, fun j bs h => by simp at h⟩
theorem Parts.snoc {w : World} {ps : List Value} {bss : List (List UInt8)} (h : Parts w ps bss) {A : Option Addr} {bs : List UInt8} {c : Nat} (hc : bs.length ≤ c) (hm : c ≤ maxLen) (hr : Rd w A (bc bs)) :
    Parts w (ps ++ [.slice A bs.length c]) (bss ++ [bs]) := by
  refine ⟨by simp [h.1], fun j b hj => ?_⟩
  by_cases hlt : j < bss.length
  · rw [List.getElem?_append_left hlt] at hj
    obtain ⟨A', c', h1, h2⟩ := h.2 j b hj
    exact ⟨A', c', by rw [List.getElem?_append_left (by rw [h.1]; exact hlt)]; exact h1, h2⟩
  · rw [List.getElem?_append_right (by omega)] at hj
    have h0 : j - bss.length = 0 := by
      rcases Nat.eq_zero_or_pos (j - bss.length) with h | h
      · exact h
      · rw [List.getElem?_eq_none (by simp; omega)] at hj; cases hj
    rw [h0] at hj
    simp only [List.getElem?_cons_zero, Option.some.injEq] at hj
    subst hj
    refine ⟨A, c, ?_, hc, hm, hr⟩
    rw [List.getElem?_append_right (by rw [h.1]; omega), h.1, h0]
    rfl

theorem info_bytes : (Tryd.prog.info? 24).map (fun i => (i.zero, i.size, i.bytes)) = some (some (.slice none 0 0), 1, 24) := by kernel_rfl

theorem mem_of_at' {α : Type} {zs : List α} {k : Nat} {x : α} (h : zs[k]? = some x) : x ∈ zs := List.mem_of_getElem? h

theorem one_slice (A : Option Addr) (n c : Nat) : ∀ u ∈ [Value.slice A n c], u.oneCell' = true := by
  intro u hu; rw [List.mem_singleton.1 hu]; rfl

theorem Rd.take {w : World} {A : Option Addr} {bs : List UInt8} (h : Rd w A (bc bs)) (n : Nat) : Rd w A (bc (bs.take n)) := by
  rcases h with h | ⟨b, off, hA, hb, hc⟩
  · have h0 : bs = [] := by simpa [bc, Lib.byteCells] using h
    subst h0
    exact .inl (by simp [bc, Lib.byteCells])
  · refine .inr ⟨b, off, hA, hb, fun j u hu => hc j u ?_⟩
    have e : bc (bs.take n) = (bc bs).take n := by simp [bc, Lib.byteCells]
    rw [e, List.getElem?_take] at hu
    split at hu
    · exact hu
    · cases hu
theorem Rd.drop' {w : World} {A : Option Addr} {bs : List UInt8} (h : Rd w A (bc bs)) (n : Nat) : Rd w (A.map (·.add n)) (bc (bs.drop n)) := by
  rcases h with h | ⟨b, off, rfl, hb, hc⟩
  · have h0 : bs = [] := by simpa [bc, Lib.byteCells] using h
    subst h0
    exact .inl (by simp [bc, Lib.byteCells])
  · refine .inr ⟨b, off + n, by simp [addr_add], hb, fun j u hu => ?_⟩
    have e : bc (bs.drop n) = (bc bs).drop n := by simp [bc, Lib.byteCells]
    rw [e, List.getElem?_drop] at hu
    rw [Nat.add_assoc]
    exact hc _ u hu

/-- the slice behind its first n elements: the model keeps the address where nothing is left -/
def cutAt (A : Option Addr) (c n : Nat) : Option Addr := if c = n then A else A.map (·.add n)
theorem Rd.cutAt {w : World} {A : Option Addr} {bs : List UInt8} (h : Rd w A (bc bs)) {c n : Nat} (hc : bs.length ≤ c) (hn : n ≤ bs.length) : Rd w (cutAt A c n) (bc (bs.drop n)) := by
  unfold Go.Proofs.YtllkjlfjoadifaaDoor.cutAt
  split
  · exact .inl (by rw [List.drop_of_length_le (by omega)]; rfl)
  · exact h.drop' n

set_option maxHeartbeats 2000000 in
set_option maxRecDepth 100000 in
theorem cutC (A A2 : Option Addr) (c c2 : Nat) (bs : List UInt8) (ls : List Int) (w : World) (hr : Rd w A (bc bs)) (hc : bs.length ≤ c) (hcm : c ≤ maxLen) (hr2 : Rd w A2 (ic ls)) (hls : ∀ x ∈ ls, -9223372036854775808 ≤ x ∧ x ≤ 9223372036854775807) (hl : bs.length ≤ 11000000) (hl2 : ls.length ≤ 17592186043904) :
    Calls Tryd.prog 10 #[.slice A bs.length c, .slice A2 ls.length c2] w fun e w' => ∃ v ps bss, e = .returned v ∧ w'.ownsRow w.heap.size 24 1 v ps.length ps ∧ Parts w' ps bss ∧ bss.flatten = bs ∧ Below w.heap.size w w' ∧ ps.length ≤ bs.length + 1 ∧ 0 < ps.length := by
  obtain ⟨i0, hi, hz0, hz1, hz2⟩ := info_parts info_bytes
  have HR2 := Lib.hid hr2
  have HLS := Lib.hid hls
  have HR := Lib.hid hr
  clear hr2 hls hr
  go_enter Tryd.func10, Tryd.ntmps10
  go_wp2
  go_loopw [0, 5, 6] (fun d o i wr => ∃ (k c' : Nat) (A' : Option Addr) (rest : List UInt8) (ps : List Value) (bss : List (List UInt8)), i = .int .i64 k ∧ d = .slice A' rest.length c' ∧ rest.length ≤ c' ∧ c' ≤ maxLen ∧ Rd w A' (bc rest) ∧ k = ps.length ∧ ps.length + rest.length ≤ bs.length ∧
      wr.ownsRow w.heap.size 24 1 o ps.length ps ∧ Parts w ps bss ∧ bss.flatten ++ rest = bs ∧ Below w.heap.size w wr)
    (fun _ _ i _ => bs.length - (intOf i).toNat)
  case atStart => exact ⟨0, c, A, bs, [], [], rfl, rfl, hc, hcm, HR.out, rfl, by simp, World.ownsRow_nil _ _ _ _, Parts.nil, rfl, Below.refl _ _⟩
  case round =>
    clear HR hc
    obtain ⟨k, c', A', rest, ps, bss, rfl, rfl, hrc, hcm', hrd, hk, hkl, hown, hparts, hflat, hnx⟩ := hrel
    have HRD := Lib.hid hrd
    have HP := Lib.hid hparts
    have HF := Lib.hid hflat
    have HO := Lib.hid hown
    have HN := Lib.hid hnx
    have HB := hnx.size
    subst hk
    clear hrd hparts hflat hown hnx
    by_cases hne : 0 < rest.length
    · by_cases hln : 0 < ls.length
      · obtain ⟨l, hlx⟩ : ∃ l, ls[ps.length % ls.length]? = some l := ⟨_, List.getElem?_eq_getElem (Nat.mod_lt _ hln)⟩
        obtain ⟨b2, off2, rfl, hb2, hcell2⟩ := (HR2.out.below HN.out).at_ (show (ic ls)[ps.length % ls.length]? = some (.int .i64 l) by simp [ic, hlx])
        obtain ⟨hl0, hl1⟩ := HLS.out l (mem_of_at' hlx)
        clear hlx
        have hi0 : 0 ≤ (ps.length : Int) % (ls.length : Int) := Int.emod_nonneg _ (by omega)
        have hi1 : (ps.length : Int) % (ls.length : Int) < (ls.length : Int) := Int.emod_lt_of_pos _ (by omega)
        obtain ⟨b1, off1, rfl, hb1, hjunk⟩ := HRD.out.at_ (k := 0) (u := .int .u8 ((rest[0]'hne).toNat : Int)) (by simp [bc, Lib.byteCells, List.getElem?_eq_getElem hne])
        clear hjunk
        by_cases hA : (rest.length : Int) ≤ l
        · by_cases h1 : 1 < rest.length
          · have hcut : Hid (Rd w (cutAt (some ⟨b1, off1, none⟩) c' rest.length) (bc (rest.drop (rest.length)))) := HRD.out.cutAt hrc (by omega)
            have hsn : Hid (Parts w (ps ++ [Value.slice (some ⟨b1, off1, none⟩) (rest.length) c']) (bss ++ [rest.take (rest.length)])) := by
              have h := HP.out.snoc (A := some ⟨b1, off1, none⟩) (bs := rest.take (rest.length)) (c := c') (by rw [List.length_take]; omega) hcm' (HRD.out.take _)
              rwa [List.length_take, Nat.min_eq_left (by omega)] at h
            by_cases hcN : c' = rest.length
            · have hcu : cutAt (some ⟨b1, off1, none⟩) c' (rest.length) = some ⟨b1, off1, none⟩ := if_pos hcN
              have HC : Hid (Rd w (some ⟨b1, off1, none⟩) (bc (rest.drop (rest.length)))) := by rw [← hcu]; exact hcut.out
              clear hcut hcu
              subst hcN
              go_wp2_with (at_builtin; refine wpList_append_own_wide _ rfl (.tmp 29) (.tmp 33) 28 rfl w.heap.size 24 i0 (.slice none 0 0) 1 24 Tryd.underlying28 hi hz0 hz1 hz2 rfl (by decide) _ _ _ rfl (HO.out.alloc _) ⟨wr.heap.size, 0, none⟩ 1 1 [Value.slice (some ⟨b1, off1, none⟩) (rest.length) (rest.length)] rfl rfl cell_one (one_slice _ _ _) (by unfold maxLen; omega) (by omega) (by simp; omega) ?_)
              intro v' w1 hown' hgrow _
              have B1 : Hid (Below w.heap.size w w1) := (HN.out.alloc HB _).grown hgrow (by simp; omega) (fun j hj => (HO.out.lt j hj).1)
              have R : Hid (w1.ownsRow w.heap.size 24 1 v' (ps ++ [Value.slice (some ⟨b1, off1, none⟩) (rest.length) (rest.length)]).length (ps ++ [Value.slice (some ⟨b1, off1, none⟩) (rest.length) (rest.length)])) := by rw [List.length_append, List.length_singleton]; exact hown'
              clear hown' hgrow
              go_wp2
              go_roundw
              case rel => exact ⟨ps.length + 1, rest.length - rest.length, _, rest.drop (rest.length), _, _, by go_num, by first | (simp; done) | (simp; omega) | (rw [List.length_drop]), by rw [List.length_drop]; omega, by omega, HC.out, by simp, by simp; omega, R.out, hsn.out, by rw [← HF.out]; simp only [List.flatten_append, List.flatten_cons, List.flatten_nil, List.append_nil, List.append_assoc, List.take_append_drop], B1.out⟩
              case measure => simp [intOf]; omega
            · have hcu : cutAt (some ⟨b1, off1, none⟩) c' (rest.length) = some ⟨b1, off1 + rest.length, none⟩ := by unfold cutAt; rw [if_neg hcN]; simp [addr_add]
              have HC : Hid (Rd w (some ⟨b1, off1 + rest.length, none⟩) (bc (rest.drop (rest.length)))) := by rw [← hcu]; exact hcut.out
              clear hcut hcu
              go_wp2_with (at_builtin; refine wpList_append_own_wide _ rfl (.tmp 29) (.tmp 33) 28 rfl w.heap.size 24 i0 (.slice none 0 0) 1 24 Tryd.underlying28 hi hz0 hz1 hz2 rfl (by decide) _ _ _ rfl (HO.out.alloc _) ⟨wr.heap.size, 0, none⟩ 1 1 [Value.slice (some ⟨b1, off1, none⟩) (rest.length) c'] rfl rfl cell_one (one_slice _ _ _) (by unfold maxLen; omega) (by omega) (by simp; omega) ?_)
              intro v' w1 hown' hgrow _
              have B1 : Hid (Below w.heap.size w w1) := (HN.out.alloc HB _).grown hgrow (by simp; omega) (fun j hj => (HO.out.lt j hj).1)
              have R : Hid (w1.ownsRow w.heap.size 24 1 v' (ps ++ [Value.slice (some ⟨b1, off1, none⟩) (rest.length) c']).length (ps ++ [Value.slice (some ⟨b1, off1, none⟩) (rest.length) c'])) := by rw [List.length_append, List.length_singleton]; exact hown'
              clear hown' hgrow
              go_wp2
              go_roundw
              case rel => exact ⟨ps.length + 1, c' - rest.length, _, rest.drop (rest.length), _, _, by go_num, by first | (simp; done) | (simp; omega) | (rw [List.length_drop]), by rw [List.length_drop]; omega, by omega, HC.out, by simp, by simp; omega, R.out, hsn.out, by rw [← HF.out]; simp only [List.flatten_append, List.flatten_cons, List.flatten_nil, List.append_nil, List.append_assoc, List.take_append_drop], B1.out⟩
              case measure => simp [intOf]; omega
          · have hcut : Hid (Rd w (cutAt (some ⟨b1, off1, none⟩) c' 1) (bc (rest.drop (1)))) := HRD.out.cutAt hrc (by omega)
            have hsn : Hid (Parts w (ps ++ [Value.slice (some ⟨b1, off1, none⟩) (1) c']) (bss ++ [rest.take (1)])) := by
              have h := HP.out.snoc (A := some ⟨b1, off1, none⟩) (bs := rest.take (1)) (c := c') (by rw [List.length_take]; omega) hcm' (HRD.out.take _)
              rwa [List.length_take, Nat.min_eq_left (by omega)] at h
            by_cases hcN : c' = 1
            · have hcu : cutAt (some ⟨b1, off1, none⟩) c' (1) = some ⟨b1, off1, none⟩ := if_pos hcN
              have HC : Hid (Rd w (some ⟨b1, off1, none⟩) (bc (rest.drop (1)))) := by rw [← hcu]; exact hcut.out
              clear hcut hcu
              subst hcN
              go_wp2_with (at_builtin; refine wpList_append_own_wide _ rfl (.tmp 29) (.tmp 33) 28 rfl w.heap.size 24 i0 (.slice none 0 0) 1 24 Tryd.underlying28 hi hz0 hz1 hz2 rfl (by decide) _ _ _ rfl (HO.out.alloc _) ⟨wr.heap.size, 0, none⟩ 1 1 [Value.slice (some ⟨b1, off1, none⟩) (1) 1] rfl rfl cell_one (one_slice _ _ _) (by unfold maxLen; omega) (by omega) (by simp; omega) ?_)
              intro v' w1 hown' hgrow _
              have B1 : Hid (Below w.heap.size w w1) := (HN.out.alloc HB _).grown hgrow (by simp; omega) (fun j hj => (HO.out.lt j hj).1)
              have R : Hid (w1.ownsRow w.heap.size 24 1 v' (ps ++ [Value.slice (some ⟨b1, off1, none⟩) (1) 1]).length (ps ++ [Value.slice (some ⟨b1, off1, none⟩) (1) 1])) := by rw [List.length_append, List.length_singleton]; exact hown'
              clear hown' hgrow
              go_wp2
              go_roundw
              case rel => exact ⟨ps.length + 1, 1 - 1, _, rest.drop (1), _, _, by go_num, by first | (simp; done) | (simp; omega) | (rw [List.length_drop]), by rw [List.length_drop]; omega, by omega, HC.out, by simp, by simp; omega, R.out, hsn.out, by rw [← HF.out]; simp only [List.flatten_append, List.flatten_cons, List.flatten_nil, List.append_nil, List.append_assoc, List.take_append_drop], B1.out⟩
              case measure => simp [intOf]; omega
            · have hcu : cutAt (some ⟨b1, off1, none⟩) c' (1) = some ⟨b1, off1 + 1, none⟩ := by unfold cutAt; rw [if_neg hcN]; simp [addr_add]
              have HC : Hid (Rd w (some ⟨b1, off1 + 1, none⟩) (bc (rest.drop (1)))) := by rw [← hcu]; exact hcut.out
              clear hcut hcu
              go_wp2_with (at_builtin; refine wpList_append_own_wide _ rfl (.tmp 29) (.tmp 33) 28 rfl w.heap.size 24 i0 (.slice none 0 0) 1 24 Tryd.underlying28 hi hz0 hz1 hz2 rfl (by decide) _ _ _ rfl (HO.out.alloc _) ⟨wr.heap.size, 0, none⟩ 1 1 [Value.slice (some ⟨b1, off1, none⟩) (1) c'] rfl rfl cell_one (one_slice _ _ _) (by unfold maxLen; omega) (by omega) (by simp; omega) ?_)
              intro v' w1 hown' hgrow _
              have B1 : Hid (Below w.heap.size w w1) := (HN.out.alloc HB _).grown hgrow (by simp; omega) (fun j hj => (HO.out.lt j hj).1)
              have R : Hid (w1.ownsRow w.heap.size 24 1 v' (ps ++ [Value.slice (some ⟨b1, off1, none⟩) (1) c']).length (ps ++ [Value.slice (some ⟨b1, off1, none⟩) (1) c'])) := by rw [List.length_append, List.length_singleton]; exact hown'
              clear hown' hgrow
              go_wp2
              go_roundw
              case rel => exact ⟨ps.length + 1, c' - 1, _, rest.drop (1), _, _, by go_num, by first | (simp; done) | (simp; omega) | (rw [List.length_drop]), by rw [List.length_drop]; omega, by omega, HC.out, by simp, by simp; omega, R.out, hsn.out, by rw [← HF.out]; simp only [List.flatten_append, List.flatten_cons, List.flatten_nil, List.append_nil, List.append_assoc, List.take_append_drop], B1.out⟩
              case measure => simp [intOf]; omega
        · by_cases h1 : 1 < l
          · obtain ⟨N, rfl⟩ := Int.eq_ofNat_of_zero_le (show 0 ≤ l by omega)
            have hcut : Hid (Rd w (cutAt (some ⟨b1, off1, none⟩) c' N) (bc (rest.drop (N)))) := HRD.out.cutAt hrc (by omega)
            have hsn : Hid (Parts w (ps ++ [Value.slice (some ⟨b1, off1, none⟩) (N) c']) (bss ++ [rest.take (N)])) := by
              have h := HP.out.snoc (A := some ⟨b1, off1, none⟩) (bs := rest.take (N)) (c := c') (by rw [List.length_take]; omega) hcm' (HRD.out.take _)
              rwa [List.length_take, Nat.min_eq_left (by omega)] at h
            by_cases hcN : c' = N
            · omega
            · have hcu : cutAt (some ⟨b1, off1, none⟩) c' (N) = some ⟨b1, off1 + N, none⟩ := by unfold cutAt; rw [if_neg hcN]; simp [addr_add]
              have HC : Hid (Rd w (some ⟨b1, off1 + N, none⟩) (bc (rest.drop (N)))) := by rw [← hcu]; exact hcut.out
              clear hcut hcu
              go_wp2_with (at_builtin; refine wpList_append_own_wide _ rfl (.tmp 29) (.tmp 33) 28 rfl w.heap.size 24 i0 (.slice none 0 0) 1 24 Tryd.underlying28 hi hz0 hz1 hz2 rfl (by decide) _ _ _ rfl (HO.out.alloc _) ⟨wr.heap.size, 0, none⟩ 1 1 [Value.slice (some ⟨b1, off1, none⟩) (N) c'] rfl rfl cell_one (one_slice _ _ _) (by unfold maxLen; omega) (by omega) (by simp; omega) ?_)
              intro v' w1 hown' hgrow _
              have B1 : Hid (Below w.heap.size w w1) := (HN.out.alloc HB _).grown hgrow (by simp; omega) (fun j hj => (HO.out.lt j hj).1)
              have R : Hid (w1.ownsRow w.heap.size 24 1 v' (ps ++ [Value.slice (some ⟨b1, off1, none⟩) (N) c']).length (ps ++ [Value.slice (some ⟨b1, off1, none⟩) (N) c'])) := by rw [List.length_append, List.length_singleton]; exact hown'
              clear hown' hgrow
              go_wp2
              go_roundw
              case rel => exact ⟨ps.length + 1, c' - N, _, rest.drop (N), _, _, by go_num, by first | (simp; done) | (simp; omega) | (rw [List.length_drop]), by rw [List.length_drop]; omega, by omega, HC.out, by simp, by simp; omega, R.out, hsn.out, by rw [← HF.out]; simp only [List.flatten_append, List.flatten_cons, List.flatten_nil, List.append_nil, List.append_assoc, List.take_append_drop], B1.out⟩
              case measure => simp [intOf]; omega
          · have hcut : Hid (Rd w (cutAt (some ⟨b1, off1, none⟩) c' 1) (bc (rest.drop (1)))) := HRD.out.cutAt hrc (by omega)
            have hsn : Hid (Parts w (ps ++ [Value.slice (some ⟨b1, off1, none⟩) (1) c']) (bss ++ [rest.take (1)])) := by
              have h := HP.out.snoc (A := some ⟨b1, off1, none⟩) (bs := rest.take (1)) (c := c') (by rw [List.length_take]; omega) hcm' (HRD.out.take _)
              rwa [List.length_take, Nat.min_eq_left (by omega)] at h
            by_cases hcN : c' = 1
            · have hcu : cutAt (some ⟨b1, off1, none⟩) c' (1) = some ⟨b1, off1, none⟩ := if_pos hcN
              have HC : Hid (Rd w (some ⟨b1, off1, none⟩) (bc (rest.drop (1)))) := by rw [← hcu]; exact hcut.out
              clear hcut hcu
              subst hcN
              go_wp2_with (at_builtin; refine wpList_append_own_wide _ rfl (.tmp 29) (.tmp 33) 28 rfl w.heap.size 24 i0 (.slice none 0 0) 1 24 Tryd.underlying28 hi hz0 hz1 hz2 rfl (by decide) _ _ _ rfl (HO.out.alloc _) ⟨wr.heap.size, 0, none⟩ 1 1 [Value.slice (some ⟨b1, off1, none⟩) (1) 1] rfl rfl cell_one (one_slice _ _ _) (by unfold maxLen; omega) (by omega) (by simp; omega) ?_)
              intro v' w1 hown' hgrow _
              have B1 : Hid (Below w.heap.size w w1) := (HN.out.alloc HB _).grown hgrow (by simp; omega) (fun j hj => (HO.out.lt j hj).1)
              have R : Hid (w1.ownsRow w.heap.size 24 1 v' (ps ++ [Value.slice (some ⟨b1, off1, none⟩) (1) 1]).length (ps ++ [Value.slice (some ⟨b1, off1, none⟩) (1) 1])) := by rw [List.length_append, List.length_singleton]; exact hown'
              clear hown' hgrow
              go_wp2
              go_roundw
              case rel => exact ⟨ps.length + 1, 1 - 1, _, rest.drop (1), _, _, by go_num, by first | (simp; done) | (simp; omega) | (rw [List.length_drop]), by rw [List.length_drop]; omega, by omega, HC.out, by simp, by simp; omega, R.out, hsn.out, by rw [← HF.out]; simp only [List.flatten_append, List.flatten_cons, List.flatten_nil, List.append_nil, List.append_assoc, List.take_append_drop], B1.out⟩
              case measure => simp [intOf]; omega
            · have hcu : cutAt (some ⟨b1, off1, none⟩) c' (1) = some ⟨b1, off1 + 1, none⟩ := by unfold cutAt; rw [if_neg hcN]; simp [addr_add]
              have HC : Hid (Rd w (some ⟨b1, off1 + 1, none⟩) (bc (rest.drop (1)))) := by rw [← hcu]; exact hcut.out
              clear hcut hcu
              go_wp2_with (at_builtin; refine wpList_append_own_wide _ rfl (.tmp 29) (.tmp 33) 28 rfl w.heap.size 24 i0 (.slice none 0 0) 1 24 Tryd.underlying28 hi hz0 hz1 hz2 rfl (by decide) _ _ _ rfl (HO.out.alloc _) ⟨wr.heap.size, 0, none⟩ 1 1 [Value.slice (some ⟨b1, off1, none⟩) (1) c'] rfl rfl cell_one (one_slice _ _ _) (by unfold maxLen; omega) (by omega) (by simp; omega) ?_)
              intro v' w1 hown' hgrow _
              have B1 : Hid (Below w.heap.size w w1) := (HN.out.alloc HB _).grown hgrow (by simp; omega) (fun j hj => (HO.out.lt j hj).1)
              have R : Hid (w1.ownsRow w.heap.size 24 1 v' (ps ++ [Value.slice (some ⟨b1, off1, none⟩) (1) c']).length (ps ++ [Value.slice (some ⟨b1, off1, none⟩) (1) c'])) := by rw [List.length_append, List.length_singleton]; exact hown'
              clear hown' hgrow
              go_wp2
              go_roundw
              case rel => exact ⟨ps.length + 1, c' - 1, _, rest.drop (1), _, _, by go_num, by first | (simp; done) | (simp; omega) | (rw [List.length_drop]), by rw [List.length_drop]; omega, by omega, HC.out, by simp, by simp; omega, R.out, hsn.out, by rw [← HF.out]; simp only [List.flatten_append, List.flatten_cons, List.flatten_nil, List.append_nil, List.append_assoc, List.take_append_drop], B1.out⟩
              case measure => simp [intOf]; omega
      · go_wp2_with (at_builtin; refine wpList_append_own_wide _ rfl (.tmp 38) (.tmp 40) 28 rfl w.heap.size 24 i0 (.slice none 0 0) 1 24 Tryd.underlying28 hi hz0 hz1 hz2 rfl (by decide) _ _ _ rfl (HO.out.alloc _) ⟨wr.heap.size, 0, none⟩ 1 1 [Value.slice A' rest.length c'] rfl rfl cell_one (one_slice _ _ _) (by unfold maxLen; omega) (by omega) (by simp; omega) ?_)
        intro v' w1 hown' hgrow _
        have B1 : Hid (Below w.heap.size w w1) := (HN.out.alloc HB _).grown hgrow (by simp; omega) (fun j hj => (HO.out.lt j hj).1)
        have R : Hid (w1.ownsRow w.heap.size 24 1 v' (ps ++ [Value.slice A' rest.length c']).length (ps ++ [Value.slice A' rest.length c'])) := by rw [List.length_append, List.length_singleton]; exact hown'
        clear hown' hgrow
        go_wp2
        go_ret
        exact ⟨_, ps ++ [Value.slice A' rest.length c'], bss ++ [rest], rfl, R.out, (HP.out.snoc hrc hcm' HRD.out).below B1.out, by simp [HF.out], B1.out, by simp; omega, by simp⟩
    · go_wp2_with (at_builtin; refine wpList_append_own_wide _ rfl (.tmp 38) (.tmp 40) 28 rfl w.heap.size 24 i0 (.slice none 0 0) 1 24 Tryd.underlying28 hi hz0 hz1 hz2 rfl (by decide) _ _ _ rfl (HO.out.alloc _) ⟨wr.heap.size, 0, none⟩ 1 1 [Value.slice A' rest.length c'] rfl rfl cell_one (one_slice _ _ _) (by unfold maxLen; omega) (by omega) (by simp; omega) ?_)
      intro v' w1 hown' hgrow _
      have B1 : Hid (Below w.heap.size w w1) := (HN.out.alloc HB _).grown hgrow (by simp; omega) (fun j hj => (HO.out.lt j hj).1)
      have R : Hid (w1.ownsRow w.heap.size 24 1 v' (ps ++ [Value.slice A' rest.length c']).length (ps ++ [Value.slice A' rest.length c'])) := by rw [List.length_append, List.length_singleton]; exact hown'
      clear hown' hgrow
      go_wp2
      go_ret
      exact ⟨_, ps ++ [Value.slice A' rest.length c'], bss ++ [rest], rfl, R.out, (HP.out.snoc hrc hcm' HRD.out).below B1.out, by simp [HF.out], B1.out, by simp; omega, by simp⟩
end Go.Proofs.YtllkjlfjoadifaaDoor
