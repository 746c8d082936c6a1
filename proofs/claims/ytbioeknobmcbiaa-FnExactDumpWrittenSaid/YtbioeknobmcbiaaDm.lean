/-
  What is proved here: the memory of a dumper over a writer, as one state, and what each store and each write leaves of it. Conditions: each lemma says its own.
-/
import Derived.Test.YtbioeknobmcbiaaSink
namespace Go.Proofs.Ytbioeknobmcbiaa
open Go.RowKit

theorem gen_wp {p : Program} {c : Code} {Q : Exit → Act → World → Prop} {a : Act} {w : World} (S : World → Prop) (h : S w) (k : ∀ w', S w' → Code.wp p c Q a w') : Code.wp p c Q a w := k w h

structure Grew2 (D g : Nat) (v : Value) (w : World) (v' : Value) (w' : World) : Prop where
  os : w'.os = w.os
  tape : w'.tape = w.tape
  output : w'.output = w.output
  size : w.heap.size ≤ w'.heap.size
  block : ∀ k, k < w.heap.size → k ≠ D → k ≠ g → some k ≠ v.ownBlock → w'.heap[k]? = w.heap[k]?
  moved : Moved w v v'
theorem Grew2.refl (D g : Nat) (v : Value) (w : World) : Grew2 D g v w v w := ⟨rfl, rfl, rfl, Nat.le_refl _, fun _ _ _ _ _ => rfl, Moved.refl w v⟩
theorem Grew2.trans {D g : Nat} {v v' v'' : Value} {w w' w'' : World} (h : Grew2 D g v w v' w') (k : Grew2 D g v' w' v'' w'') : Grew2 D g v w v'' w'' := by
  refine ⟨k.os.trans h.os, k.tape.trans h.tape, k.output.trans h.output, Nat.le_trans h.size k.size, fun i hi h0 h1 h2 => ?_, fun i hi => ?_⟩
  · refine (k.block i (Nat.lt_of_lt_of_le hi h.size) h0 h1 (fun e => ?_)).trans (h.block i hi h0 h1 h2)
    rcases h.moved i e.symm with h3 | h3
    · exact h2 h3.symm
    · omega
  · rcases k.moved i hi with h3 | h3
    · exact h.moved i h3
    · have := h.size; exact .inr (by omega)
theorem Grew2.of {D g : Nat} {v v' : Value} {w w' : World} (h : Grew g v w v' w') : Grew2 D g v w v' w' := ⟨h.os, h.tape, h.output, h.size, fun k hk _ h1 h2 => h.block k hk h1 h2, h.moved⟩
theorem Grew2.only {D g : Nat} {v : Value} {w w' : World} (h : Only D w w') : Grew2 D g v w v w' := ⟨h.os, h.tape, h.output, Nat.le_of_eq h.size.symm, fun k _ h0 _ _ => h.block k h0, Moved.refl w v⟩

/-- the dumper in block D over the writer in block g, and how it came from an earlier world -/
structure Dm (S : Snk) (B : Nat) (D g : Nat) (v0 : Value) (w0 : World) (v : Value) (w : World) (rc bf : List UInt8) (used n : Nat) (cl : Bool) (out : List UInt8) : Prop where
  ge : B ≤ D
  dp : Dp w D (S.iv g) rc bf used n cl
  sk : Sk S B w g v out
  gr : Grew2 D g v0 w0 v w
section
variable {S : Snk} {B D g : Nat} {v0 v : Value} {w0 w : World} {rc bf : List UInt8} {used n : Nat} {cl : Bool} {out : List UInt8}
theorem Dm.gD (h : Dm S B D g v0 w0 v w rc bf used n cl out) (hS : S.Ok) : g ≠ D := blk_ne h.sk.at_ h.dp.at_ hS.bt60
theorem Dm.only (h : Dm S B D g v0 w0 v w rc bf used n cl out) (hS : S.Ok) {w' : World} (ho : Only D w w') {rc' bf' : List UInt8} {used' n' : Nat} {cl' : Bool} (hd : Dp w' D (S.iv g) rc' bf' used' n' cl') : Dm S B D g v0 w0 v w' rc' bf' used' n' cl' out :=
  ⟨h.ge, hd, ⟨h.sk.ge, (ho.block g (h.gD hS)).trans h.sk.at_, by
    refine ⟨h.sk.own.1, ?_⟩
    rcases h.sk.own.2 with h1 | ⟨g', cap, cur, rfl, h1, hh, hr⟩
    · exact .inl h1
    · exact .inr ⟨g', cap, cur, rfl, h1, (ho.block g' (blk_ne hh h.dp.at_ (by decide))).trans hh, hr⟩⟩, h.gr.trans (Grew2.only ho)⟩
theorem Dm.wrote (h : Dm S B D g v0 w0 v w rc bf used n cl out) (hS : S.Ok) {v' : Value} {w' : World} {out' : List UInt8} (hs : Sk S B w' g v' out') (hg : Grew g v w v' w') : Dm S B D g v0 w0 v' w' rc bf used n cl out' :=
  ⟨h.ge, h.dp.same (hg.block D h.dp.lt (Ne.symm (h.gD hS)) (own_ne h.sk.own h.dp.at_ (by decide))), hs, h.gr.trans (Grew2.of hg)⟩
theorem Dm.drew (h : Dm S B D g v0 w0 v w rc bf used n cl out) (hS : S.Ok) : Dm S B D g v0 w0 v w.drew rc bf used n cl out := h.only hS (Only.refl _ _).drew h.dp.drew
theorem Dm.drewN (h : Dm S B D g v0 w0 v w rc bf used n cl out) (hS : S.Ok) (q : Nat) : Dm S B D g v0 w0 v (w.drewN q) rc bf used n cl out := h.only hS ((Only.refl _ _).drewN q) (h.dp.drewN q)
theorem Dm.setBuf (h : Dm S B D g v0 w0 v w rc bf used n cl out) (hS : S.Ok) (i : Nat) (hi : i < 14) (b : UInt8) : Dm S B D g v0 w0 v (w.setCell ⟨D, 19 + i, none⟩ (.int .u8 (b.toNat : Int))) rc (bf.set i b) used n cl out := h.only hS ((Only.refl _ _).set _ _) (h.dp.setBuf i hi b)
theorem Dm.setRight (h : Dm S B D g v0 w0 v w rc bf used n cl out) (hS : S.Ok) (i : Nat) (hi : i < 18) (b : UInt8) : Dm S B D g v0 w0 v (w.setCell ⟨D, 1 + i, none⟩ (.int .u8 (b.toNat : Int))) (rc.set i b) bf used n cl out := h.only hS ((Only.refl _ _).set _ _) (h.dp.setRight i hi b)
theorem Dm.setUsed (h : Dm S B D g v0 w0 v w rc bf used n cl out) (hS : S.Ok) (m : Nat) : Dm S B D g v0 w0 v (w.setCell ⟨D, 33, none⟩ (.int .i64 (m : Int))) rc bf m n cl out := h.only hS ((Only.refl _ _).set _ _) (h.dp.setUsed m)
theorem Dm.setN (h : Dm S B D g v0 w0 v w rc bf used n cl out) (hS : S.Ok) (m : Nat) : Dm S B D g v0 w0 v (w.setCell ⟨D, 34, none⟩ (.int .u64 (m : Int))) rc bf used m cl out := h.only hS ((Only.refl _ _).set _ _) (h.dp.setN m)
theorem Dm.setClosed (h : Dm S B D g v0 w0 v w rc bf used n cl out) (hS : S.Ok) (b : Bool) : Dm S B D g v0 w0 v (w.setCell ⟨D, 35, none⟩ (.bool b)) rc bf used n b out := h.only hS ((Only.refl _ _).set _ _) (h.dp.setClosed b)
theorem Dm.buf (h : Dm S B D g v0 w0 v w rc bf used n cl out) (i : Nat) (hi : i < 14) : ∃ x, w.cell? ⟨D, 19 + i, none⟩ = some x := ⟨_, h.dp.buf i _ (List.getElem?_eq_getElem (by rw [h.dp.lb]; exact hi))⟩
theorem Dm.right (h : Dm S B D g v0 w0 v w rc bf used n cl out) (i : Nat) (hi : i < 18) : ∃ x, w.cell? ⟨D, 1 + i, none⟩ = some x := ⟨_, h.dp.right i _ (List.getElem?_eq_getElem (by rw [h.dp.lr]; exact hi))⟩
theorem Dm.enc (h : Dm S B D g v0 w0 v w rc bf used n cl out) (hS : S.Ok) {w' : World} (i : Nat) (xs : List UInt8) (hi : i + xs.length ≤ 14) (hp : w'.heap[D]? = some (.cells (put (dcs (S.iv g) rc bf used n cl) (19 + i) (bc xs)).toArray 60 (0, 0))) (ho : Only D w w') :
    Dm S B D g v0 w0 v w' rc (bf.take i ++ xs ++ bf.drop (i + xs.length)) used n cl out := by
  refine h.only hS ho ⟨h.dp.lr, ?_, ?_⟩
  · have := h.dp.lb; simp only [List.length_append, List.length_take, List.length_drop]; omega
  · rw [h.dp.putBuf i xs hi] at hp; exact hp
/-- the buffer from i on, as bytes to write -/
theorem Dm.rdBuf (h : Dm S B D g v0 w0 v w rc bf used n cl out) (i : Nat) (xs : List UInt8) (hx : ∀ (j : Nat) (x : UInt8), xs[j]? = some x → bf[i + j]? = some x) : Rd w (some ⟨D, 19 + i, none⟩) (bc xs) := by
  refine .inr ⟨D, 19 + i, rfl, h.dp.lt, fun j u hu => ?_⟩
  rw [bc, Lib.byteCells, List.getElem?_map] at hu
  rcases hj : xs[j]? with _ | x
  · rw [hj] at hu; cases hu
  · rw [hj] at hu
    simp only [Option.map_some, Option.some.injEq] at hu
    subst hu
    rw [Nat.add_assoc]
    exact h.dp.buf (i + j) x (hx j x hj)
theorem Dm.rdRight (h : Dm S B D g v0 w0 v w rc bf used n cl out) (xs : List UInt8) (hx : ∀ (j : Nat) (x : UInt8), xs[j]? = some x → rc[j]? = some x) : Rd w (some ⟨D, 1, none⟩) (bc xs) := by
  refine .inr ⟨D, 1, rfl, h.dp.lt, fun j u hu => ?_⟩
  rw [bc, Lib.byteCells, List.getElem?_map] at hu
  rcases hj : xs[j]? with _ | x
  · rw [hj] at hu; cases hu
  · rw [hj] at hu
    simp only [Option.map_some, Option.some.injEq] at hu
    subst hu
    exact h.dp.right j x (hx j x hj)
/-- bytes of another place read on -/
theorem Dm.rd (h : Dm S B D g v0 w0 v w rc bf used n cl out) {b off : Nat} {u : Value} (hb : b < w0.heap.size) (h1 : b ≠ D) (h2 : b ≠ g) (h3 : some b ≠ v0.ownBlock) (hc : w0.cell? ⟨b, off, none⟩ = some u) : w.cell? ⟨b, off, none⟩ = some u :=
  (World.cell?_of_block (w := w0) (h.gr.block b hb h1 h2 h3)).trans hc
end
end Go.Proofs.Ytbioeknobmcbiaa
