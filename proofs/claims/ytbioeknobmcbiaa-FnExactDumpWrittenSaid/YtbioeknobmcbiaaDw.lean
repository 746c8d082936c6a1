/-
  What is proved here: what dumper.Write does with bytes, over either writer. Conditions: the dumper is open, the bytes lie outside its own memory, and all together they are at most 1000000000000.
-/
import Derived.Test.YtbioeknobmcbiaaDm
import Derived.Deep.DeepCutAuto
import Derived.Deep.RegionHeld3
namespace Go.Proofs.Ytbioeknobmcbiaa
open Go.RowKit

theorem u8n (m : Nat) : ((m.toUInt8.toNat : Nat) : Int) = (m : Int) % 256 := by
  have h : (m.toUInt8).toNat = m % 256 := by simp [Nat.toUInt8]
  rw [h]; omega
def hbf (bf : List UInt8) (n : Nat) : List UInt8 := (((bf.set 0 (n / 16777216).toUInt8).set 1 (n / 65536).toUInt8).set 2 (n / 256).toUInt8).set 3 n.toUInt8
def ebf (bf xs : List UInt8) (i : Nat) : List UInt8 := bf.take i ++ xs ++ bf.drop (i + xs.length)
theorem len14 {bf : List UInt8} (h : bf.length = 14) : ∃ a b c d e f g i j k l m n o : UInt8, bf = [a, b, c, d, e, f, g, i, j, k, l, m, n, o] := by
  match bf, h with
  | [a, b, c, d, e, f, g, i, j, k, l, m, n, o], _ => exact ⟨a, b, c, d, e, f, g, i, j, k, l, m, n, o, rfl⟩
theorem hbf_at {bf : List UInt8} (h : bf.length = 14) (n : Nat) : ∀ (j : Nat) (b : UInt8), ([(n / 16777216).toUInt8, (n / 65536).toUInt8, (n / 256).toUInt8, n.toUInt8] : List UInt8)[j]? = some b → (hbf bf n)[j]? = some b := by
  obtain ⟨a, b, c, d, e, f, g, i, j, k, l, m, nn, o, rfl⟩ := len14 h
  intro q x hq
  match q, hq with
  | 0, hq => exact hq
  | 1, hq => exact hq
  | 2, hq => exact hq
  | 3, hq => exact hq
theorem head_bytes {bf : List UInt8} (h : bf.length = 14) (n : Nat) : (((ebf (hbf bf n) (hexs [(n / 16777216).toUInt8, (n / 65536).toUInt8, (n / 256).toUInt8, n.toUInt8]) 4).set 12 32).set 13 32).drop 4 = digits 8 n ++ [32, 32] := by
  obtain ⟨a, b, c, d, e, f, g, i, j, k, l, m, nn, o, rfl⟩ := len14 h
  rw [← digits8]
  rfl

section
variable {S : Snk} {B D g : Nat} {v0 v : Value} {w0 w : World} {rc bf : List UInt8} {used n : Nat} {cl : Bool} {out : List UInt8}
theorem dcs_length (h : Dm S B D g v0 w0 v w rc bf used n cl out) : (dcs (S.iv g) rc bf used n cl).length = 36 := by
  have h1 := h.dp.lr
  have h2 := h.dp.lb
  simp only [dcs, List.length_cons, List.length_append, bc_length, List.length_nil]; omega
theorem encode4 (h : Dm S B D g v0 w0 v w rc (hbf bf n) used n cl out) (hS : S.Ok) (hl : bf.length = 14) :
    Calls Try.prog 55 #[.slice (some ⟨D, 23, none⟩) 10 10, .slice (some ⟨D, 19, none⟩) 4 14] w fun e w' => e = .returned (.int .i64 8) ∧ Dm S B D g v0 w0 v w' rc (ebf (hbf bf n) (hexs [(n / 16777216).toUInt8, (n / 65536).toUInt8, (n / 256).toUInt8, n.toUInt8]) 4) used n cl out := by
  refine (encode w D 60 (dcs (S.iv g) rc (hbf bf n) used n cl) 23 10 10 D 19 14 [(n / 16777216).toUInt8, (n / 65536).toUInt8, (n / 256).toUInt8, n.toUInt8] h.dp.at_ (by rw [dcs_length h]; simp) (by simp) (by simp) (fun j x hj => h.dp.buf j x (hbf_at hl n j x hj)) (.inr (by simp))).mono ?_
  rintro e w5 ⟨rfl, hp5, ho5⟩
  exact ⟨rfl, h.enc hS 4 _ (by simp [hexs]) hp5 ho5⟩
theorem encode1 (h : Dm S B D g v0 w0 v w rc bf used n cl out) (hS : S.Ok) (b o c : Nat) (x : UInt8) (hb : b ≠ D) (hx : w.cell? ⟨b, o, none⟩ = some (.int .u8 (x.toNat : Int))) :
    Calls Try.prog 55 #[.slice (some ⟨D, 19, none⟩) 14 14, .slice (some ⟨b, o, none⟩) 1 c] w fun e w' => e = .returned (.int .i64 2) ∧ Dm S B D g v0 w0 v w' rc (ebf bf [hexd (x.toNat / 16), hexd x.toNat] 0) used n cl out := by
  refine (encode w D 60 (dcs (S.iv g) rc bf used n cl) 19 14 14 b o c [x] h.dp.at_ (by rw [dcs_length h]; simp) (by simp) (by simp) (fun j y hj => ?_) (.inl hb)).mono ?_
  · match j, hj with
    | 0, hj => simp only [List.getElem?_cons_zero, Option.some.injEq] at hj; subst hj; exact hx
  rintro e w5 ⟨rfl, hp5, ho5⟩
  exact ⟨rfl, h.enc hS 0 [hexd (x.toNat / 16), hexd x.toNat] (by simp) hp5 ho5⟩
/-- a write of bytes of the dumper's own -/
theorem dmWrite (h : Dm S B D g v0 w0 v w rc bf used n cl out) (hS : S.Ok) (A : Option Addr) (m c : Nat) (xs : List UInt8) (hr : Rd w A (bc xs)) (hm : xs.length = m) (hb : out.length + m ≤ 200000000000000) :
    Calls Try.prog S.fn #[.pointer (some ⟨g, 0, none⟩), .slice A m c] w fun e w' => e = .returned (.tuple #[.int .i64 (m : Int), .nilIface]) ∧ ∃ v', Dm S B D g v0 w0 v' w' rc bf used n cl (out ++ xs) := by
  refine (hS.write B w g v out A m c xs h.sk hr hm hb).mono ?_
  rintro e w' ⟨rfl, v', hs, hg⟩
  exact ⟨rfl, v', h.wrote hS hs hg⟩
end

/-- the state of a dumper that has been given ds -/
def Dst (S : Snk) (B D g : Nat) (v0 : Value) (w0 : World) (v : Value) (w : World) (ds : List UInt8) : Prop :=
  ∃ rc bf, Dm S B D g v0 w0 v w rc bf (ds.length % 16) ds.length false (openFrom 0 ds) ∧ rc.take (ds.length % 16) = lastL ds
theorem toChar_still (w : World) (b : UInt8) : Calls Try.prog 56 #[.int .u8 (b.toNat : Int)] w fun e w' => e = .returned (.int .u8 ((shownC b).toNat : Int)) ∧ w' = w :=
  (toChar_ w b).mono fun _ _ h => ⟨h.1, h.2.symm⟩
/-- the buffer with a column in it -/
def bbf (bf : List UInt8) (u : Nat) (x : UInt8) : List UInt8 :=
  if u = 7 then ((ebf bf [hexd (x.toNat / 16), hexd x.toNat] 0).set 2 32).set 3 32
  else if u = 15 then (((ebf bf [hexd (x.toNat / 16), hexd x.toNat] 0).set 2 32).set 3 32).set 4 124
  else (ebf bf [hexd (x.toNat / 16), hexd x.toNat] 0).set 2 32
theorem bbf_at {bf : List UInt8} (h : bf.length = 14) (u : Nat) (x : UInt8) : ∀ (j : Nat) (y : UInt8), (ct u x)[j]? = some y → (bbf bf u x)[0 + j]? = some y := by
  obtain ⟨a, b, c, d, e, f, g, i, j, k, l, m, nn, o, rfl⟩ := len14 h
  intro q y hq
  rw [Nat.zero_add]
  unfold ct at hq
  unfold bbf
  by_cases h7 : u = 7
  · rw [if_pos h7] at hq ⊢
    match q, hq with
    | 0, hq => exact hq
    | 1, hq => exact hq
    | 2, hq => exact hq
    | 3, hq => exact hq
  · rw [if_neg h7] at hq ⊢
    by_cases h15 : u = 15
    · rw [if_pos h15] at hq ⊢
      match q, hq with
      | 0, hq => exact hq
      | 1, hq => exact hq
      | 2, hq => exact hq
      | 3, hq => exact hq
      | 4, hq => exact hq
    · rw [if_neg h15] at hq ⊢
      match q, hq with
      | 0, hq => exact hq
      | 1, hq => exact hq
      | 2, hq => exact hq
def ctl (u : Nat) : Nat := if u = 7 then 4 else if u = 15 then 5 else 3
theorem ct_length (u : Nat) (x : UInt8) : (ct u x).length = ctl u := by
  unfold ct ctl
  by_cases h7 : u = 7
  · simp [h7]
  · by_cases h15 : u = 15 <;> simp [h7, h15]

section
variable {S : Snk} {B D g : Nat} {v0 v : Value} {w0 w : World} {rc bf : List UInt8}
theorem dst_no {ds : List UInt8} {x : UInt8} (hu : ds.length % 16 ≠ 15) (hrc : rc.take (ds.length % 16) = lastL ds)
    (h : Dm S B D g v0 w0 v w (rc.set (ds.length % 16) (shownC x)) bf (ds.length % 16 + 1) (ds.length + 1) false (openFrom 0 ds ++ hd0 (ds.length % 16) ds.length ++ ct (ds.length % 16) x)) : Dst S B D g v0 w0 v w (ds ++ [x]) := by
  have hlr := h.dp.lr
  rw [List.length_set] at hlr
  have e1 : (ds ++ [x]).length = ds.length + 1 := by simp
  have e2 : (ds ++ [x]).length % 16 = ds.length % 16 + 1 := by rw [e1]; omega
  refine ⟨rc.set (ds.length % 16) (shownC x), bf, ?_, ?_⟩
  · rw [e2, e1, open_snoc]
    unfold tl
    rw [if_neg hu, List.append_nil]
    exact h
  · rw [e2, lastL_snoc ds x hu, ← hrc, List.take_add_one, List.take_set_of_le (Nat.le_refl _)]
    rw [List.getElem?_set_self (by omega)]
    rfl
theorem dst_end {ds : List UInt8} {x : UInt8} (hu : ds.length % 16 = 15) (hrc : rc.take (ds.length % 16) = lastL ds) {rc' : List UInt8}
    (h : Dm S B D g v0 w0 v w rc' bf 0 (ds.length + 1) false (openFrom 0 ds ++ hd0 (ds.length % 16) ds.length ++ ct (ds.length % 16) x ++ (rc.take 15 ++ [shownC x, 124, 10]))) : Dst S B D g v0 w0 v w (ds ++ [x]) := by
  have e1 : (ds ++ [x]).length = ds.length + 1 := by simp
  have e2 : (ds ++ [x]).length % 16 = 0 := by rw [e1]; omega
  refine ⟨rc', bf, ?_, ?_⟩
  · rw [e2, e1, open_snoc]
    unfold tl
    rw [if_pos hu, ← hrc, hu]
    rw [hu] at h
    simpa using h
  · have hz := lastL_length (ds ++ [x])
    rw [e2] at hz ⊢
    rw [List.eq_nil_of_length_eq_zero hz]
    rfl
theorem right_bytes {rc : List UInt8} (h : rc.length = 18) (c : UInt8) : ∀ (j : Nat) (y : UInt8), (rc.take 15 ++ [c, 124, 10])[j]? = some y → (((rc.set 15 c).set 16 124).set 17 10)[j]? = some y := by
  match rc, h with
  | [a0, a1, a2, a3, a4, a5, a6, a7, a8, a9, a10, a11, a12, a13, a14, a15, a16, a17], _ => intro j y hj; exact hj
end

set_option maxHeartbeats 8000000 in
set_option maxRecDepth 100000 in
theorem dwrite (S : Snk) (hS : S.Ok) (B D g : Nat) (v : Value) (w : World) (ds0 : List UInt8) (hd : Dst S B D g v w v w ds0) (b off c : Nat) (data : List UInt8) (hl : ds0.length + data.length ≤ 1000000000) (hcap : data.length ≤ c)
   (hb : b < w.heap.size) (h1 : b ≠ D) (h2 : b ≠ g) (h3 : some b ≠ v.ownBlock) (hc : ∀ j u, data[j]? = some u → w.cell? ⟨b, off + j, none⟩ = some (.int .u8 (u.toNat : Int))) :
   Calls Try.prog 53 #[.pointer (some ⟨D, 0, none⟩), .slice (some ⟨b, off, none⟩) data.length c] w fun e w' => e = .returned (.tuple #[.int .i64 data.length, .nilIface]) ∧ ∃ v', Dst S B D g v w v' w' (ds0 ++ data) := by
  have HC := Lib.hid hc
  have H3 := Lib.hid h3
  have HD := Lib.hid hd
  obtain ⟨rc, bf, hdm, _⟩ := hd
  have cl := hdm.dp.closed_
  clear hc h3 hdm
  go_enter Try.func53, Try.ntmps53
  go_wp2
  go_loopw [4, 5, 15] (fun x e i wr => ∃ k : Nat, ∃ v', k ≤ data.length ∧ i = .int .i64 k ∧ x = .int .i64 k ∧ e = .nilIface ∧ Dst S B D g v w v' wr (ds0 ++ data.take k)) (fun _ _ i _ => data.length - (intOf i).toNat)
  case atStart => exact ⟨0, v, Nat.zero_le _, rfl, rfl, rfl, by rw [List.take_zero, List.append_nil]; exact HD.out⟩
  case round =>
    clear HD cl
    obtain ⟨k, v', hk, rfl, rfl, rfl, hd⟩ := hrel
    by_cases hlt : k < data.length
    · obtain ⟨x, hx⟩ : ∃ x, data[k]? = some x := ⟨_, List.getElem?_eq_getElem hlt⟩
      obtain ⟨rc', bf', hdm, hrc⟩ := hd
      have HX := Lib.hid hx
      have HRC := Lib.hid hrc
      have hol := open_length 0 (ds0 ++ data.take k)
      have hdl9 : (ds0 ++ data.take k).length ≤ 1000000000 := by rw [List.length_append, List.length_take]; omega
      have hdl : (ds0 ++ data.take k).length ≤ 1000000000000 := by omega
      have hout : (openFrom 0 (ds0 ++ data.take k)).length ≤ 100000000000 := by omega
      have hu16 : (ds0 ++ data.take k).length % 16 < 16 := by omega
      clear hol hx hrc hdl9
      obtain ⟨u, hu⟩ : ∃ u, (ds0 ++ data.take k).length % 16 = u := ⟨_, rfl⟩
      obtain ⟨n, hn⟩ : ∃ n, (ds0 ++ data.take k).length = n := ⟨_, rfl⟩
      obtain ⟨out, ho⟩ : ∃ out, openFrom 0 (ds0 ++ data.take k) = out := ⟨_, rfl⟩
      have HU := Lib.hid hu
      have HN := Lib.hid hn
      have HO := Lib.hid ho
      rw [hu, ho, hn] at hdm
      rw [ho] at hout
      rw [hu] at hu16
      rw [hn] at hdl
      clear hu hn ho
      have HD := Lib.hid hdm
      have cu := hdm.dp.used_
      have HDL := Lib.hid hdm.dp.lb
      clear hdm
      go_upto_if 22 with fail
      go_cut [5, 15] (fun e i wx => e = .nilIface ∧ i = .int .i64 k ∧ ∃ v1 bf1, Dm S B D g v w v1 wx rc' bf1 u n false (out ++ hd0 u n))
      case first =>
        by_cases hu : u = 0
        · as_aux_lemma =>
          subst hu
          have cn := HD.out.dp.n_
          obtain ⟨x0, cb0⟩ := HD.out.buf 0 (by decide)
          have fb0 := HD.out.dp.free 19
          simp only [Nat.add_zero] at cb0
          go_wp2
          go_still_tail 10, (by kernel_rfl)
          go_wp2
          refine gen_wp (fun x => Dm S B D g v w v' x rc' (bf'.set 0 (n / 16777216).toUInt8) 0 n false out) (by have h := (HD.out.setBuf hS 0 (by decide) (n / 16777216).toUInt8).drew hS; rw [u8n] at h; exact h) ?_
          clear cn cb0 fb0 x0 HD cu
          intro w1 hd
          have HD := Lib.hid hd
          have cn := hd.dp.n_
          obtain ⟨x0, cb0⟩ := hd.buf 1 (by decide)
          have fb0 := hd.dp.free 20
          clear hd
          go_still_tail 10, (by kernel_rfl)
          go_wp2
          refine gen_wp (fun x => Dm S B D g v w v' x rc' ((bf'.set 0 (n / 16777216).toUInt8).set 1 (n / 65536).toUInt8) 0 n false out) (by have h := (HD.out.setBuf hS 1 (by decide) (n / 65536).toUInt8).drew hS; rw [u8n] at h; exact h) ?_
          clear cn cb0 fb0 x0 HD
          intro w2 hd
          have HD := Lib.hid hd
          have cn := hd.dp.n_
          obtain ⟨x0, cb0⟩ := hd.buf 2 (by decide)
          have fb0 := hd.dp.free 21
          clear hd
          go_still_tail 10, (by kernel_rfl)
          go_wp2
          refine gen_wp (fun x => Dm S B D g v w v' x rc' (((bf'.set 0 (n / 16777216).toUInt8).set 1 (n / 65536).toUInt8).set 2 (n / 256).toUInt8) 0 n false out) (by have h := (HD.out.setBuf hS 2 (by decide) (n / 256).toUInt8).drew hS; rw [u8n] at h; exact h) ?_
          clear cn cb0 fb0 x0 HD
          intro w3 hd
          have HD := Lib.hid hd
          have cn := hd.dp.n_
          obtain ⟨x0, cb0⟩ := hd.buf 3 (by decide)
          have fb0 := hd.dp.free 22
          clear hd
          go_still_tail 9, (by kernel_rfl)
          go_wp2
          refine gen_wp (fun x => Dm S B D g v w v' x rc' (hbf bf' n) 0 n false out) (by have h := (HD.out.setBuf hS 3 (by decide) n.toUInt8).drew hS; rw [u8n] at h; exact h) ?_
          clear cn cb0 fb0 x0 HD
          intro w4 hd
          have HD := Lib.hid hd
          clear hd
          go_still_tail 8, (by kernel_rfl)
          go_wp2_with fail
          refine (encode4 (HD.out.drew hS) hS HDL.out).mono ?_
          rintro e w5 ⟨rfl, hd5⟩
          have HD5 := Lib.hid hd5
          clear hd5 HD
          obtain ⟨x0, cb0⟩ := HD5.out.buf 12 (by decide)
          have fb0 := HD5.out.dp.free 31
          obtain ⟨x1, cb1⟩ := HD5.out.buf 13 (by decide)
          have fb1 := HD5.out.dp.free 32
          go_wp2
          refine gen_wp (fun x => Dm S B D g v w v' x rc' (((ebf (hbf bf' n) (hexs [(n / 16777216).toUInt8, (n / 65536).toUInt8, (n / 256).toUInt8, n.toUInt8]) 4).set 12 32).set 13 32) 0 n false out) ((HD5.out.setBuf hS 12 (by decide) 32).setBuf hS 13 (by decide) 32) ?_
          clear cb0 fb0 cb1 fb1 x0 x1 HD5
          intro w6 hd
          have HD := Lib.hid hd
          have c0 := hd.dp.w_
          clear hd
          have hrd := (HD.out.drew hS).rdBuf 4 (digits 8 n ++ [32, 32]) (fun j x hj => by rw [← head_bytes HDL.out n, List.getElem?_drop] at hj; exact hj)
          have HR := Lib.hid hrd
          clear hrd
          have hmeth := hS.meth
          have hcall := hS.call
          go_region_held3 (fun x => x.cell? ⟨D, 0, none⟩ = some (S.iv g)) (first | assumption | go_keep)
            (first | (refine (dmWrite (HD.out.drew hS) hS (some ⟨D, 23, none⟩) 10 10 (digits 8 n ++ [32, 32]) HR.out (by simp [digits_length]) (by omega)).mono ?_; rintro e w7 ⟨rfl, v1, hd1⟩; have HD1 := Lib.hid hd1; have c1 := hd1.dp.w_; clear hd1))
          go_wp2
          go_meet
          exact ⟨rfl, rfl, v1, _, HD1.out⟩
        · have HE := Lib.hid (show out ++ hd0 u n = out by unfold hd0; rw [if_neg hu, List.append_nil])
          go_wp2
          go_meet
          exact ⟨rfl, rfl, v', bf', by rw [HE.out]; exact HD.out⟩
      case rest =>
        obtain ⟨rfl, rfl, v1, bf1, hd⟩ := hcut
        clear HD cu HDL
        have HD := Lib.hid hd
        have HDL := Lib.hid hd.dp.lb
        have cx := hd.rd hb h1 h2 H3.out (HC.out k x HX.out)
        have CX := Lib.hid cx
        clear hd cx
        have hol : (hd0 u n).length ≤ 10 := by unfold hd0; split <;> simp [digits_length]
        have hk0 : (0 : Int) ≤ (k : Int) := by omega
        have hk3 : (0 : Int) ≤ (k : Int) + 1 := by omega
        have hk1 : (k : Int) + 1 ≤ (data.length : Int) := by omega
        have hk2 : (k : Int) + 1 ≤ (c : Int) := by omega
        have hwr : IntKind.i64.wrap ((k : Int) + 1) = (k : Int) + 1 := IntWalk.i64_in _ (by omega)
        have htn : ((k : Int) + 1).toNat = k + 1 := by omega
        have hck : ¬ c = k := by omega
        go_wp2
        go_still_tail 9, (by kernel_rfl)
        go_wp2_with fail
        clear hwr htn hck hk0 hk1 hk2 hk3
        refine (encode1 (HD.out.drew hS) hS b (off + k) (c - k) x h1 CX.out).mono ?_
        rintro e w5 ⟨rfl, hd5⟩
        have HD5 := Lib.hid hd5
        obtain ⟨x0, cb0⟩ := hd5.buf 2 (by decide)
        have fb0 := hd5.dp.free 21
        have cu5 := hd5.dp.used_
        clear hd5 HD
        go_upto_if 113 with fail
        go_cut [7] (fun l wx => l = .int .i64 ((ctl u : Nat) : Int) ∧ Dm S B D g v w v1 wx rc' (bbf bf1 u x) u n false (out ++ hd0 u n))
        case first =>
          have HD6 := Lib.hid (HD5.out.setBuf hS 2 (by decide) 32)
          obtain ⟨x3, cb3⟩ := HD5.out.buf 3 (by decide)
          have fb3 := HD5.out.dp.free 22
          obtain ⟨x4, cb4⟩ := HD5.out.buf 4 (by decide)
          have fb4 := HD5.out.dp.free 23
          by_cases h7 : u = 7
          · as_aux_lemma =>
            subst h7
            go_wp2
            go_meet
            exact ⟨rfl, HD6.out.setBuf hS 3 (by decide) 32⟩
          · by_cases h15 : u = 15
            · as_aux_lemma =>
              subst h15
              go_wp2
              go_meet
              exact ⟨rfl, (HD6.out.setBuf hS 3 (by decide) 32).setBuf hS 4 (by decide) 124⟩
            · have HE := Lib.hid (show bbf bf1 u x = (ebf bf1 [hexd (x.toNat / 16), hexd x.toNat] 0).set 2 32 by unfold bbf; rw [if_neg h7, if_neg h15])
              have HL := Lib.hid (show ctl u = 3 by unfold ctl; rw [if_neg h7, if_neg h15])
              go_wp2
              go_meet
              rw [HE.out, HL.out]
              exact ⟨rfl, HD6.out⟩
        case rest =>
          as_aux_lemma =>
          obtain ⟨rfl, hd⟩ := hcut
          clear cb0 fb0 cu5 HD5 x0
          have HD := Lib.hid hd
          have c0 := hd.dp.w_
          have hlb := ctl u
          obtain ⟨l, hl0⟩ : ∃ l, ctl u = l := ⟨_, rfl⟩
          have hl3 : 3 ≤ l ∧ l ≤ 5 := by rw [← hl0]; unfold ctl; split <;> (try split) <;> omega
          have hrd := (hd.drew hS).rdBuf 0 (ct u x) (bbf_at HDL.out u x)
          have HR := Lib.hid hrd
          have HL := Lib.hid ((ct_length u x).trans hl0)
          rw [hl0]
          obtain ⟨hl3, hl5⟩ := hl3
          have hli : (0 : Int) ≤ (l : Int) := by omega
          have hli14 : (l : Int) ≤ 14 := by omega
          clear hd hrd hl0 hlb
          have hmeth := hS.meth
          have hcall := hS.call
          go_wp2
          go_region_held3 (fun x => x.cell? ⟨D, 0, none⟩ = some (S.iv g)) (first | assumption | go_keep)
            (first | (refine (dmWrite (HD.out.drew hS) hS (some ⟨D, 19, none⟩) l 14 (ct u x) HR.out HL.out (by simp only [List.length_append]; omega)).mono ?_; rintro e w7 ⟨rfl, v2, hd1⟩; have HD1 := Lib.hid hd1; have c1 := hd1.dp.w_; clear hd1))
          go_wp2
          clear c0 c1 HR HL HD hli hli14 hl3 hl5 hmeth hcall
          have hui0 : (0 : Int) ≤ (u : Int) := by omega
          have hui : (u : Int) < 18 := by omega
          have hki0 : (0 : Int) ≤ (k : Int) := by omega
          have hki : (k : Int) < (data.length : Int) := by omega
          have cx := HD1.out.rd hb h1 h2 H3.out (HC.out k x HX.out)
          have cu := HD1.out.dp.used_
          obtain ⟨y, cr⟩ := HD1.out.right u (by omega)
          have fr := HD1.out.dp.free (1 + u)
          have cn := HD1.out.dp.n_
          have f33 := HD1.out.dp.free 33
          have f34 := HD1.out.dp.free 34
          go_still_tail 13, (by kernel_rfl)
          still_call (toChar_still _ x)
          repeat still_step
          refine wpStill_nil ?_
          go_upto_if 181 with fail
          refine gen_wp (fun wx => Dm S B D g v w v2 wx (rc'.set u (shownC x)) (bbf bf1 u x) (u + 1) (n + 1) false (out ++ hd0 u n ++ ct u x)) ?hgen ?_
          case hgen => exact (((HD1.out.setRight hS u (by omega) (shownC x)).setUsed hS (u + 1)).setN hS (n + 1)).drew hS
          clear fr cn f33 f34 cr cu cx hki hki0 hui hui0 HD1
          intro w8 hd8
          by_cases h15 : u = 15
          · as_aux_lemma =>
            subst h15
            have HD8 := Lib.hid hd8
            have c0 := hd8.dp.w_
            obtain ⟨y16, c16⟩ := hd8.right 16 (by decide)
            obtain ⟨y17, c17⟩ := hd8.right 17 (by decide)
            have f16 := hd8.dp.free 17
            have f17 := hd8.dp.free 18
            have HLR := Lib.hid (show rc'.length = 18 by have := hd8.dp.lr; rwa [List.length_set] at this)
            clear hd8
            go_upto_region 35 with fail
            refine gen_wp (fun wx => Dm S B D g v w v2 wx (((rc'.set 15 (shownC x)).set 16 124).set 17 10) (bbf bf1 15 x) (15 + 1) (n + 1) false (out ++ hd0 15 n ++ ct 15 x)) ?hgen ?_
            case hgen => exact (HD8.out.setRight hS 16 (by decide) 124).setRight hS 17 (by decide) 10
            clear c0 c16 c17 f16 f17 HD8
            intro w9 hd9
            have HD9 := Lib.hid hd9
            have c0 := hd9.dp.w_
            have HR := Lib.hid ((hd9.drew hS).rdRight (rc'.take 15 ++ [shownC x, 124, 10]) (right_bytes HLR.out (shownC x)))
            clear hd9
            have hmeth := hS.meth
            have hcall := hS.call
            have hct : (ct 15 x).length ≤ 5 := by rw [ct_length]; decide
            go_region_held3 (fun x => x.cell? ⟨D, 0, none⟩ = some (S.iv g)) (first | assumption | go_keep)
              (first | (refine (dmWrite (HD9.out.drew hS) hS (some ⟨D, 1, none⟩) 18 18 (rc'.take 15 ++ [shownC x, 124, 10]) HR.out (by rw [List.length_append, List.length_take, HLR.out]; rfl) (by simp only [List.length_append]; omega)).mono ?_; rintro e w10 ⟨rfl, v3, hd1⟩; have HD1 := Lib.hid hd1; have c1 := hd1.dp.w_; have cu := hd1.dp.used_; have f33 := hd1.dp.free 33; clear hd1))
            have HF := Lib.hid (show Dst S B D g v w v3 (w10.setCell ⟨D, 33, none⟩ (.int .i64 0)) (ds0 ++ data.take (k + 1)) by
              rw [take_snoc HX.out, ← List.append_assoc]
              exact dst_end HU.out HRC.out (by rw [HU.out, HN.out, HO.out]; exact HD1.out.setUsed hS 0))
            go_wp2
            go_roundw
            case rel => exact ⟨k + 1, v3, by omega, by go_num, by go_num, rfl, HF.out⟩
            case measure => simp [intOf]; omega
          · as_aux_lemma =>
            have HF := Lib.hid (show Dst S B D g v w v2 w8 (ds0 ++ data.take (k + 1)) by
              rw [take_snoc HX.out, ← List.append_assoc]
              exact dst_no (by rw [HU.out]; exact h15) HRC.out (by rw [HU.out, HN.out, HO.out]; exact hd8))
            clear hd8
            go_wp2
            go_roundw
            case rel => exact ⟨k + 1, v2, by omega, by go_num, by go_num, rfl, HF.out⟩
            case measure => simp [intOf]; omega
    · have HF := Lib.hid (show Dst S B D g v w v' wr (ds0 ++ data) by rw [List.take_of_length_le (by omega)] at hd; exact hd)
      obtain rfl : k = data.length := by omega
      clear hd
      go_wp2
      go_ret2
      exact ⟨rfl, v', HF.out⟩
end Go.Proofs.Ytbioeknobmcbiaa
