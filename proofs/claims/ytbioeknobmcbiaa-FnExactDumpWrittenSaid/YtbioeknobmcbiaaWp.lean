/-
  What is proved here: words for a dumper that is made, given parts one after the other, and closed; impl.writeParts over a dumper. Conditions: all parts together have at most 1000000000 bytes, and there are at most 1000000000 of them.
-/
import Derived.Test.YtbioeknobmcbiaaCl
namespace Go.Proofs.Ytbioeknobmcbiaa
open Go.RowKit

/-- The cells ps are slices of bytes that read as bss. -/
def Parts (w : World) (ps : List Value) (bss : List (List UInt8)) : Prop :=
  ps.length = bss.length ∧ ∀ (j : Nat) (bs : List UInt8), bss[j]? = some bs → ∃ (A : Option Addr) (c : Nat), ps[j]? = some (Value.slice A bs.length c) ∧ bs.length ≤ c ∧ c ≤ maxLen ∧ Rd w A (bc bs)
theorem Parts.below {w w' : World} {ps : List Value} {bss : List (List UInt8)} (h : Parts w ps bss) (hb : Below w.heap.size w w') : Parts w' ps bss :=
  ⟨h.1, fun j bs hj => by obtain ⟨A, c, h1, h2, h3, h4⟩ := h.2 j bs hj; exact ⟨A, c, h1, h2, h3, h4.below hb⟩⟩

section
variable {S : Snk} {B D g : Nat} {v0 v : Value} {w0 w : World}
theorem Dst.restart {ds : List UInt8} (h : Dst S B D g v0 w0 v w ds) : Dst S B D g v w v w ds := by
  obtain ⟨rc, bf, hd, hr⟩ := h
  exact ⟨rc, bf, ⟨hd.ge, hd.dp, hd.sk, Grew2.refl _ _ _ _⟩, hr⟩
theorem Dst.trans {ds ds' : List UInt8} {v' : Value} {w' : World} (h : Dst S B D g v0 w0 v w ds) (k : Dst S B D g v w v' w' ds') : Dst S B D g v0 w0 v' w' ds' := by
  obtain ⟨rc, bf, hd, _⟩ := h
  obtain ⟨rc', bf', hd', hr⟩ := k
  exact ⟨rc', bf', ⟨hd'.ge, hd'.dp, hd'.sk, hd.gr.trans hd'.gr⟩, hr⟩
theorem Dst.gr {ds : List UInt8} (h : Dst S B D g v0 w0 v w ds) : Grew2 D g v0 w0 v w := by
  obtain ⟨rc, bf, hd, _⟩ := h
  exact hd.gr
theorem Dst.sk {ds : List UInt8} (h : Dst S B D g v0 w0 v w ds) : Sk S B w g v (openFrom 0 ds) := by
  obtain ⟨rc, bf, hd, _⟩ := h
  exact hd.sk
theorem Dst.ltD {ds : List UInt8} (h : Dst S B D g v0 w0 v w ds) : B ≤ D ∧ D < w.heap.size := by
  obtain ⟨rc, bf, hd, _⟩ := h
  exact ⟨hd.ge, hd.dp.lt⟩
theorem Dst.ltg {ds : List UInt8} (h : Dst S B D g v0 w0 v w ds) : B ≤ g ∧ g < w.heap.size := ⟨h.sk.ge, blk_lt h.sk.at_⟩
/-- new blocks behind it -/
theorem Dst.grown {ds : List UInt8} (h : Dst S B D g v0 w0 v w ds) {w' : World} (hg : w.grownBy w' none) : Dst S B D g v0 w0 v w' ds := by
  obtain ⟨rc, bf, hd, hr⟩ := h
  have hblk : ∀ k, k < w.heap.size → w'.heap[k]? = w.heap[k]? := fun k hk => hg.block k hk (by simp)
  refine ⟨rc, bf, ⟨hd.ge, hd.dp.same (hblk D hd.dp.lt), ⟨hd.sk.ge, (hblk g (blk_lt hd.sk.at_)).trans hd.sk.at_, ?_⟩, ?_⟩, hr⟩
  · refine ⟨hd.sk.own.1, ?_⟩
    rcases hd.sk.own.2 with h1 | ⟨g', cap, cur, rfl, h1, hh, hr⟩
    · exact .inl h1
    · exact .inr ⟨g', cap, cur, rfl, h1, (hblk g' (blk_lt hh)).trans hh, hr⟩
  · have hgr := hd.gr
    refine ⟨hg.os.trans hgr.os, hg.tape.trans hgr.tape, hg.output.trans hgr.output, Nat.le_trans hgr.size hg.size, fun k hk h1 h2 h3 => ?_, hgr.moved⟩
    exact (hblk k (Nat.lt_of_lt_of_le hk hgr.size)).trans (hgr.block k hk h1 h2 h3)
theorem Dst.drew {ds : List UInt8} (h : Dst S B D g v0 w0 v w ds) (hS : S.Ok) : Dst S B D g v0 w0 v w.drew ds := by
  obtain ⟨rc, bf, hd, hr⟩ := h
  exact ⟨rc, bf, hd.drew hS, hr⟩
theorem Dst.drewN {ds : List UInt8} (h : Dst S B D g v0 w0 v w ds) (hS : S.Ok) (q : Nat) : Dst S B D g v0 w0 v (w.drewN q) ds := by
  obtain ⟨rc, bf, hd, hr⟩ := h
  exact ⟨rc, bf, hd.drewN hS q, hr⟩
theorem Grew2.below {v' : Value} {w' : World} (h : Grew2 D g v w v' w') (hD : B ≤ D) (hg : B ≤ g) (hv : ∀ k, v.ownBlock = some k → B ≤ k) (hB : B ≤ w.heap.size) : Below B w w' :=
  ⟨h.os, h.tape, h.output, h.size, fun k hk => h.block k (by omega) (by omega) (by omega) (fun e => by have := hv k e.symm; omega)⟩
/-- a dumper that has just been made over a writer -/
theorem Dst.init {w : World} (hs : Sk S B w g v []) (hb : B ≤ D) (hat : w.heap[D]? = some (.cells (dcs (S.iv g) (List.replicate 18 0) (List.replicate 14 0) 0 0 false).toArray 60 (0, 0))) : Dst S B D g v w v w [] :=
  ⟨List.replicate 18 0, List.replicate 14 0, ⟨hb, ⟨by simp, by simp, hat⟩, by rw [open_nil]; exact hs, Grew2.refl _ _ _ _⟩, by simp [lastL]⟩
end

set_option maxHeartbeats 2000000 in
set_option maxRecDepth 100000 in
theorem dwrite0 (S : Snk) (B D g : Nat) (v : Value) (w : World) (ds : List UInt8) (hd : Dst S B D g v w v w ds) (A : Option Addr) (c : Nat) :
   Calls Try.prog 53 #[.pointer (some ⟨D, 0, none⟩), .slice A 0 c] w fun e w' => e = .returned (.tuple #[.int .i64 0, .nilIface]) ∧ ∃ v', Dst S B D g v w v' w' ds := by
  have HD := Lib.hid hd
  obtain ⟨rc, bf, hdm, _⟩ := hd
  have cl := hdm.dp.closed_
  clear hdm
  go_enter Try.func53, Try.ntmps53
  go_wp2
  go_loopw [4, 5, 15] (fun x e i wr => i = .int .i64 0 ∧ x = .int .i64 0 ∧ e = .nilIface ∧ Dst S B D g v w v wr ds) (fun _ _ _ _ => 0)
  case atStart => exact ⟨rfl, rfl, rfl, HD.out⟩
  case round =>
    obtain ⟨rfl, rfl, rfl, hd⟩ := hrel
    have HD := Lib.hid hd
    clear hd
    go_wp2
    go_ret2
    exact ⟨rfl, v, HD.out⟩

theorem dwriteR (S : Snk) (hS : S.Ok) (B D g : Nat) (v : Value) (w : World) (ds0 : List UInt8) (hd : Dst S B D g v w v w ds0) (A : Option Addr) (m c : Nat) (data : List UInt8) (hm : data.length = m) (hl : ds0.length + m ≤ 1000000000) (hcap : m ≤ c)
   (hr : Rd w A (bc data)) (hne : ∀ b off, A = some ⟨b, off, none⟩ → b ≠ D ∧ b ≠ g ∧ some b ≠ v.ownBlock) :
   Calls Try.prog 53 #[.pointer (some ⟨D, 0, none⟩), .slice A m c] w fun e w' => e = .returned (.tuple #[.int .i64 m, .nilIface]) ∧ ∃ v', Dst S B D g v w v' w' (ds0 ++ data) := by
  subst hm
  rcases hr with h | ⟨b, off, rfl, hb, hc⟩
  · have h0 : data = [] := by simpa [bc, Lib.byteCells] using h
    subst h0
    rw [List.append_nil]
    exact dwrite0 S B D g v w ds0 hd A c
  · obtain ⟨h1, h2, h3⟩ := hne b off rfl
    exact dwrite S hS B D g v w ds0 hd b off c data hl hcap hb h1 h2 h3 (fun j u hu => hc j _ (bc_at hu))
end Go.Proofs.Ytbioeknobmcbiaa
