/-
  What is proved here: the two writers that a dumper writes to (impl's keeper and strings.Builder): their Write keeps the bytes behind those that were kept. Conditions: the new length is at most 200000000000000.
-/
import Derived.Test.YtbioeknobmcbiaaEnc
import Derived.Lib.Builder
namespace Go.Proofs.Ytbioeknobmcbiaa
open Go.RowKit

/-- a kind of writer: its pointer's type, the number of its Write, its struct's type and cells -/
structure Snk where
  T : TypeId
  fn : Nat
  bt : TypeId
  cs : Nat → Value → Array Value
abbrev Snk.iv (S : Snk) (g : Nat) : Value := .iface S.T (.pointer (some ⟨g, 0, none⟩))
/-- the writer in block g keeps 'out' in the row v, all from block B on -/
structure Sk (S : Snk) (B : Nat) (w : World) (g : Nat) (v : Value) (out : List UInt8) : Prop where
  ge : B ≤ g
  at_ : w.heap[g]? = some (.cells (S.cs g v) S.bt (0, 0))
  own : w.ownsRow B 5 1 v out.length (bc out)
/-- nothing has turned but block g and the row v -/
structure Grew (g : Nat) (v : Value) (w : World) (v' : Value) (w' : World) : Prop where
  os : w'.os = w.os
  tape : w'.tape = w.tape
  output : w'.output = w.output
  size : w.heap.size ≤ w'.heap.size
  block : ∀ k, k < w.heap.size → k ≠ g → some k ≠ v.ownBlock → w'.heap[k]? = w.heap[k]?
  moved : Moved w v v'
theorem Grew.refl (g : Nat) (v : Value) (w : World) : Grew g v w v w := ⟨rfl, rfl, rfl, Nat.le_refl _, fun _ _ _ _ => rfl, Moved.refl w v⟩
theorem Grew.trans {g : Nat} {v v' v'' : Value} {w w' w'' : World} (h : Grew g v w v' w') (k : Grew g v' w' v'' w'') : Grew g v w v'' w'' := by
  refine ⟨k.os.trans h.os, k.tape.trans h.tape, k.output.trans h.output, Nat.le_trans h.size k.size, fun i hi h1 h2 => ?_, fun i hi => ?_⟩
  · refine (k.block i (Nat.lt_of_lt_of_le hi h.size) h1 (fun e => ?_)).trans (h.block i hi h1 h2)
    rcases h.moved i e.symm with h3 | h3
    · exact h2 h3.symm
    · omega
  · rcases k.moved i hi with h3 | h3
    · exact h.moved i h3
    · have := h.size; exact .inr (by omega)
theorem Grew.drew {g : Nat} {v v' : Value} {w w' : World} (h : Grew g v w v' w') : Grew g v w v' w'.drew := ⟨h.os, h.tape, h.output, h.size, h.block, h.moved⟩
theorem Grew.drewN {g : Nat} {v v' : Value} {w w' : World} (h : Grew g v w v' w') (n : Nat) : Grew g v w v' (w'.drewN n) := ⟨h.os, h.tape, h.output, h.size, h.block, h.moved⟩
theorem Sk.drew {S : Snk} {B : Nat} {w : World} {g : Nat} {v : Value} {out : List UInt8} (h : Sk S B w g v out) : Sk S B w.drew g v out := ⟨h.ge, h.at_, h.own⟩
theorem Sk.drewN {S : Snk} {B : Nat} {w : World} {g : Nat} {v : Value} {out : List UInt8} (h : Sk S B w g v out) (n : Nat) : Sk S B (w.drewN n) g v out := ⟨h.ge, h.at_, h.own⟩

def Wrote (S : Snk) (B : Nat) (w : World) (g : Nat) (v : Value) (out xs : List UInt8) (m : Nat) (e : Ending) (w' : World) : Prop :=
  e = .returned (.tuple #[.int .i64 (m : Int), .nilIface]) ∧ ∃ v', Sk S B w' g v' (out ++ xs) ∧ Grew g v w v' w'

structure Snk.Ok (S : Snk) : Prop where
  bt5 : S.bt ≠ 5
  bt60 : S.bt ≠ 60
  write : ∀ (B : Nat) (w : World) (g : Nat) (v : Value) (out : List UInt8) (A : Option Addr) (m c : Nat) (xs : List UInt8), Sk S B w g v out → Rd w A (bc xs) → xs.length = m → out.length + m ≤ 200000000000000 →
    Calls Try.prog S.fn #[.pointer (some ⟨g, 0, none⟩), .slice A m c] w (Wrote S B w g v out xs m)
  call : ∀ (args : Array Value) (w : World), (callFunc S.fn args).run Try.prog w = .ok (.enter S.fn args) w
  meth : ∀ (a : Addr) (w : World), (method 192 S.T (.pointer (some a)) "Write").run Try.prog w = .ok (S.fn, .pointer (some a)) w

theorem own_ne {w : World} {B : Nat} {v : Value} {n : Nat} {xs : List Value} {g : Nat} {cs : Array Value} {t : TypeId} (h : w.ownsRow B 5 1 v n xs) (hg : w.heap[g]? = some (.cells cs t (0, 0))) (ht : t ≠ 5) : some g ≠ v.ownBlock := by
  intro e
  rcases h.2 with ⟨rfl, _⟩ | ⟨g', cap, cur, rfl, _, hh, _⟩
  · simp [Value.ownBlock] at e
  · simp [Value.ownBlock] at e
    subst e
    exact blk_ne hg hh ht rfl
theorem own_lt {w : World} {B : Nat} {v : Value} {n : Nat} {xs : List Value} (h : w.ownsRow B 5 1 v n xs) (k : Nat) (hk : v.ownBlock = some k) : B ≤ k ∧ k < w.heap.size := h.lt k hk
theorem own_set {w : World} {B : Nat} {v : Value} {n : Nat} {xs : List Value} (h : w.ownsRow B 5 1 v n xs) {g : Nat} (hg : some g ≠ v.ownBlock) (i : Nat) (u : Value) : (w.setCell ⟨g, i, none⟩ u).ownsRow B 5 1 v n xs := by
  refine ⟨h.1, ?_⟩
  rcases h.2 with h | ⟨g', cap, cur, rfl, h1, hh, hr⟩
  · exact .inl h
  · refine .inr ⟨g', cap, cur, rfl, h1, ?_, hr⟩
    rw [blk_far (fun e => hg (by simp [Value.ownBlock, e]))]
    exact hh
theorem bc_one (bs : List UInt8) : ∀ u ∈ bc bs, u.oneCell' = true := by
  intro u hu
  obtain ⟨b, _, rfl⟩ := List.mem_map.1 hu
  rfl

/-- behind the append and the store of the row -/
theorem sk_step {S : Snk} {B : Nat} {w w1 : World} {g : Nat} {v v1 : Value} {out xs : List UInt8} {m : Nat} (i : Nat) (hS : S.bt ≠ 5) (hsk : Sk S B w g v out) (hxs : xs.length = m) (hown : w1.ownsRow B 5 1 v1 (out.length + m) (bc out ++ bc xs)) (hg : w.grownBy w1 v.ownBlock) (hm : Moved w v v1)
    (hi : (S.cs g v).setIfInBounds i v1 = S.cs g v1) : Sk S B (w1.setCell ⟨g, i, none⟩ v1) g v1 (out ++ xs) ∧ Grew g v w v1 (w1.setCell ⟨g, i, none⟩ v1) := by
  have h1 := own_ne hsk.own hsk.at_ hS
  have hat := (hg.block g (blk_lt hsk.at_) h1).trans hsk.at_
  refine ⟨⟨hsk.ge, ?_, ?_⟩, ⟨hg.os, hg.tape, hg.output, by simpa using hg.size, fun k hk hk1 hk2 => ?_, hm⟩⟩
  · rw [blk_set hat, hi]
  · rw [List.length_append, bc_append, hxs]
    exact own_set hown (own_ne hown hat hS) _ _
  · rw [blk_far hk1]; exact hg.block k hk hk2

def kS : Snk := ⟨38, 51, 40, fun _ v => #[v]⟩
def bS : Snk := ⟨63, 58, 65, fun g v => #[.pointer (some ⟨g, 0, none⟩), v]⟩

set_option maxHeartbeats 1000000 in
theorem kwrite (B : Nat) (w : World) (g : Nat) (v : Value) (out : List UInt8) (A : Option Addr) (m c : Nat) (xs : List UInt8) (hsk : Sk kS B w g v out) (hr : Rd w A (bc xs)) (hm : xs.length = m) (hb : out.length + m ≤ 200000000000000) :
    Calls Try.prog 51 #[.pointer (some ⟨g, 0, none⟩), .slice A m c] w (Wrote kS B w g v out xs m) := by
  have HS := Lib.hid hsk
  have HR := Lib.hid hr
  have HM := Lib.hid hm
  have c0 : w.cell? ⟨g, 0, none⟩ = some v := by rw [blk_cell hsk.at_]; rfl
  have hB : B ≤ w.heap.size := Nat.le_of_lt (Nat.lt_of_le_of_lt hsk.ge (blk_lt hsk.at_))
  clear hsk hr hm
  go_enter Try.func51, Try.ntmps51
  go_wp2_with (at_builtin; refine wpList_app _ rfl _ _ rfl B v out.length (bc out) rfl HS.out.own A m c (bc xs) rfl HR.out (by rw [bc_length]; exact HM.out) (bc_one xs) hb hB ?_; intro v1 w1 hown hg hmv; obtain ⟨A1, c1, hv1, _, _, _⟩ := own_rd hown; subst hv1; have HX := Lib.hid (sk_step 0 (S := kS) (by decide) HS.out HM.out hown hg hmv rfl); have hat := (hg.block g (blk_lt HS.out.at_) (own_ne HS.out.own HS.out.at_ (by decide))).trans HS.out.at_; have cn : w1.cell? ⟨g, 0, none⟩ = some v := (by rw [blk_cell hat]; rfl); have fn := blk_free hat 0; clear hat hown hg hmv)
  go_ret2
  exact ⟨rfl, _, HX.out⟩
theorem kmeth (a : Addr) (w : World) : (method 192 38 (.pointer (some a)) "Write").run Try.prog w = .ok (51, .pointer (some a)) w := by kernel_rfl
theorem kS_ok : kS.Ok := ⟨by decide, by decide, fun B w g v out A m c xs h1 h2 h3 h4 => kwrite B w g v out A m c xs h1 h2 h3 h4, Try.call51, kmeth⟩

theorem neq_self (a : Addr) (w : World) : (binOp .neq 63 (.pointer (some a)) (.pointer (some a))).run Try.prog w = .ok (.bool false) w := by
  obtain ⟨j, hj⟩ : ∃ j, Try.prog.info? 65 = some j := by
    have h : (Try.prog.info? 65).isSome = true := by kernel_rfl
    exact Option.isSome_iff_exists.1 h
  exact Lib.run_neq_ptr_same w a Try.underlying63 hj
set_option maxHeartbeats 1000000 in
theorem copyCheck_ (w : World) (g : Nat) (hc : w.cell? ⟨g, 0, none⟩ = some (.pointer (some ⟨g, 0, none⟩))) : Calls Try.prog 32 #[.pointer (some ⟨g, 0, none⟩)] w fun e w' => e = .returned (.tuple #[]) ∧ w = w' := by
  have hne := neq_self ⟨g, 0, none⟩
  go_enter Try.func32, Try.ntmps32
  go_wp2
  go_end0
  exact ⟨rfl, rfl⟩

set_option maxHeartbeats 1000000 in
theorem bwrite (B : Nat) (w : World) (g : Nat) (v : Value) (out : List UInt8) (A : Option Addr) (m c : Nat) (xs : List UInt8) (hsk : Sk bS B w g v out) (hr : Rd w A (bc xs)) (hm : xs.length = m) (hb : out.length + m ≤ 200000000000000) :
    Calls Try.prog 58 #[.pointer (some ⟨g, 0, none⟩), .slice A m c] w (Wrote bS B w g v out xs m) := by
  have HS := Lib.hid hsk
  have HR := Lib.hid hr
  have HM := Lib.hid hm
  have c0 : w.cell? ⟨g, 0, none⟩ = some (.pointer (some ⟨g, 0, none⟩)) := by rw [blk_cell hsk.at_]; rfl
  have c1 : w.cell? ⟨g, 1, none⟩ = some v := by rw [blk_cell hsk.at_]; rfl
  have hB : B ≤ w.heap.size := Nat.le_of_lt (Nat.lt_of_le_of_lt hsk.ge (blk_lt hsk.at_))
  clear hsk hr hm
  go_enter Try.func58, Try.ntmps58
  go_wp2_with fail
  refine (copyCheck_ _ g c0).mono ?_
  rintro e w' ⟨rfl, rfl⟩
  go_wp2_with (at_builtin; refine wpList_app _ rfl _ _ rfl B v out.length (bc out) rfl HS.out.own A m c (bc xs) rfl HR.out (by rw [bc_length]; exact HM.out) (bc_one xs) hb hB ?_; intro v1 w1 hown hg hmv; obtain ⟨A1, c1, hv1, _, _, _⟩ := own_rd hown; subst hv1; have HX := Lib.hid (sk_step 1 (S := bS) (by decide) HS.out HM.out hown hg hmv rfl); have hat := (hg.block g (blk_lt HS.out.at_) (own_ne HS.out.own HS.out.at_ (by decide))).trans HS.out.at_; have cn : w1.cell? ⟨g, 1, none⟩ = some v := (by rw [blk_cell hat]; rfl); have fn := blk_free hat 1; clear hat hown hg hmv)
  go_ret2
  exact ⟨rfl, _, HX.out⟩
theorem bmeth (a : Addr) (w : World) : (method 192 63 (.pointer (some a)) "Write").run Try.prog w = .ok (58, .pointer (some a)) w := by kernel_rfl
theorem bS_ok : bS.Ok := ⟨by decide, by decide, fun B w g v out A m c xs h1 h2 h3 h4 => bwrite B w g v out A m c xs h1 h2 h3 h4, Try.call58, bmeth⟩
end Go.Proofs.Ytbioeknobmcbiaa
