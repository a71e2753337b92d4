/- What a call leaves of memory: the blocks outside of a set are as they were; some cells of one block were written. No program in sight. copy(dst, src) where dst is a row of cells that may be written. No program in sight. No conditions but those in each theorem's own binders. -/
import Derived.WalkKit
import Derived.WalkSpells
import Derived.Lib.Hide
import Derived.Handy
import Derived.Deep.LoopGhost
import Derived.LaidEqlPtr
import Derived.Deep.QuietTactic
import Derived.BigQuiet
import Derived.Deep.RegionWith
import Derived.Laws.CopyOwn
namespace Go.Png
set_option linter.unusedVariables false
set_option linter.unusedSimpArgs false
open Go.RowKit

/-- Blocks outside of L, of those that there were, are as they were. -/
structure Mod (L : Nat → Prop) (w w' : World) : Prop where
  os : w'.os = w.os
  tape : w'.tape = w.tape
  output : w'.output = w.output
  size : w.heap.size ≤ w'.heap.size
  block : ∀ k, k < w.heap.size → ¬ L k → w'.heap[k]? = w.heap[k]?

theorem Mod.refl (L : Nat → Prop) (w : World) : Mod L w w := ⟨rfl, rfl, rfl, Nat.le_refl _, fun _ _ _ => rfl⟩
theorem Mod.trans {L : Nat → Prop} {a b c : World} (h : Mod L a b) (k : Mod L b c) : Mod L a c :=
  ⟨k.os.trans h.os, k.tape.trans h.tape, k.output.trans h.output, Nat.le_trans h.size k.size,
    fun i hi hl => (k.block i (Nat.lt_of_lt_of_le hi h.size) hl).trans (h.block i hi hl)⟩
/-- What is written of the blocks that were there at the first world counts alone. -/
theorem Mod.then {L L' : Nat → Prop} {a b c : World} (h : Mod L a b) (k : Mod L' b c) (hl : ∀ i, i < a.heap.size → L' i → L i) : Mod L a c :=
  ⟨k.os.trans h.os, k.tape.trans h.tape, k.output.trans h.output, Nat.le_trans h.size k.size,
    fun i hi hn => (k.block i (Nat.lt_of_lt_of_le hi h.size) fun h' => hn (hl i hi h')).trans (h.block i hi hn)⟩
theorem Mod.mono {L L' : Nat → Prop} {a b : World} (h : Mod L a b) (hl : ∀ k, k < a.heap.size → L k → L' k) : Mod L' a b :=
  ⟨h.os, h.tape, h.output, h.size, fun i hi hn => h.block i hi fun h' => hn (hl i hi h')⟩
theorem Mod.drew {L : Nat → Prop} {a w : World} (h : Mod L a w) : Mod L a w.drew := ⟨h.os, h.tape, h.output, h.size, h.block⟩
theorem Mod.drewN {L : Nat → Prop} {a w : World} (h : Mod L a w) (n : Nat) : Mod L a (w.drewN n) := ⟨h.os, h.tape, h.output, h.size, h.block⟩
theorem Mod.undrew {L : Nat → Prop} {a w : World} (h : Mod L a.drew w) : Mod L a w := ⟨h.os, h.tape, h.output, h.size, h.block⟩
theorem Mod.undrewN {L : Nat → Prop} {a w : World} {n : Nat} (h : Mod L (a.drewN n) w) : Mod L a w := ⟨h.os, h.tape, h.output, h.size, h.block⟩
theorem Mod.alloc {L : Nat → Prop} {a w : World} (h : Mod L a w) (o : Obj) : Mod L a (w.alloc o) :=
  h.trans ⟨rfl, rfl, rfl, by simp, fun k hk _ => Below.heap_alloc _ _ _ hk⟩
theorem Mod.setCell {L : Nat → Prop} {a w : World} (h : Mod L a w) {p : Addr} (hp : L p.block ∨ a.heap.size ≤ p.block) (u : Value) : Mod L a (w.setCell p u) :=
  ⟨h.os, h.tape, h.output, by simpa [World.setCell] using h.size, fun k hk hn => by
    rw [Below.heap_setCell _ _ _ _ (by intro e; subst e; rcases hp with hp | hp; exact hn hp; omega)]
    exact h.block k hk hn⟩
theorem Mod.grown {L : Nat → Prop} {a w w' : World} {row : Option Nat} (h : Mod L a w) (hg : w.grownBy w' row) (hr : ∀ k, row = some k → L k ∨ a.heap.size ≤ k) : Mod L a w' :=
  ⟨hg.os.trans h.os, hg.tape.trans h.tape, hg.output.trans h.output, Nat.le_trans h.size hg.size,
    fun k hk hn => (hg.block k (Nat.lt_of_lt_of_le hk h.size) (fun e => by rcases hr k e.symm with h1 | h1; exact hn h1; omega)).trans (h.block k hk hn)⟩
theorem Mod.of_below {w w' : World} (h : Below w.heap.size w w') (L : Nat → Prop) : Mod L w w' := ⟨h.os, h.tape, h.output, h.size, fun k hk _ => h.block k hk⟩
theorem Mod.below {w w' : World} (h : Mod (fun _ => False) w w') : Below w.heap.size w w' := ⟨h.os, h.tape, h.output, h.size, fun k hk => h.block k hk id⟩
theorem Mod.cell {L : Nat → Prop} {w w' : World} (h : Mod L w w') {b : Nat} (hb : b < w.heap.size) (hl : ¬ L b) (o : Nat) : w'.cell? ⟨b, o, none⟩ = w.cell? ⟨b, o, none⟩ :=
  World.cell?_of_block (w := w) (h.block b hb hl)
theorem Mod.frozen {L : Nat → Prop} {w w' : World} (h : Mod L w w') {b : Nat} (hb : b < w.heap.size) (hl : ¬ L b) (o : Nat) : w'.frozen? ⟨b, o, none⟩ = w.frozen? ⟨b, o, none⟩ :=
  World.frozen?_of_block (w := w) (h.block b hb hl)

theorem lt_of_cell {w : World} {b o : Nat} {v : Value} (h : w.cell? ⟨b, o, none⟩ = some v) : b < w.heap.size := World.block_lt_of_cell? _ _ h

/-- In block b the cells from off on have become vs; the others are as they were. -/
structure Wrote (b off : Nat) (vs : List Value) (w w' : World) : Prop where
  cells : ∀ o, w'.cell? ⟨b, o, none⟩ = if off ≤ o ∧ o < off + vs.length then vs[o - off]? else w.cell? ⟨b, o, none⟩
  frozen : ∀ o, w'.frozen? ⟨b, o, none⟩ = w.frozen? ⟨b, o, none⟩

/-- From off on block b has n cells that may be written. -/
structure Room (w : World) (b off n : Nat) : Prop where
  lt : b < w.heap.size
  cell : ∀ i, i < n → (w.cell? ⟨b, off + i, none⟩).isSome ∧ w.frozen? ⟨b, off + i, none⟩ = false

theorem Wrote.nil (b off : Nat) (w : World) : Wrote b off [] w w := ⟨fun o => by rw [if_neg (by simp)], fun _ => rfl⟩

theorem Wrote.append {b off : Nat} {u v : List Value} {w1 w2 w3 : World} (h : Wrote b off u w1 w2) (k : Wrote b (off + u.length) v w2 w3) : Wrote b off (u ++ v) w1 w3 := by
  refine ⟨fun o => ?_, fun o => (k.frozen o).trans (h.frozen o)⟩
  rw [k.cells, h.cells]
  simp only [List.length_append]
  by_cases h1 : off ≤ o ∧ o < off + u.length
  · rw [if_neg (by omega), if_pos h1, if_pos (by omega), List.getElem?_append_left (by omega)]
  · by_cases h2 : off + u.length ≤ o ∧ o < off + u.length + v.length
    · rw [if_pos h2, if_pos (by omega), List.getElem?_append_right (by omega)]
      congr 1; omega
    · rw [if_neg h2, if_neg h1, if_neg (by omega)]

theorem Wrote.at {b off : Nat} {vs : List Value} {w w' : World} (h : Wrote b off vs w w') (i : Nat) (hi : i < vs.length) : w'.cell? ⟨b, off + i, none⟩ = some vs[i] := by
  rw [h.cells, if_pos ⟨by omega, by omega⟩, Nat.add_sub_cancel_left, List.getElem?_eq_getElem hi]
theorem Wrote.out {b off : Nat} {vs : List Value} {w w' : World} (h : Wrote b off vs w w') (o : Nat) (ho : o < off ∨ off + vs.length ≤ o) : w'.cell? ⟨b, o, none⟩ = w.cell? ⟨b, o, none⟩ := by
  rw [h.cells, if_neg (by omega)]
theorem Wrote.undrew {b off : Nat} {vs : List Value} {w w' : World} (h : Wrote b off vs w.drew w') : Wrote b off vs w w' := ⟨h.cells, h.frozen⟩
theorem Wrote.undrewN {b off : Nat} {vs : List Value} {w w' : World} {n : Nat} (h : Wrote b off vs (w.drewN n) w') : Wrote b off vs w w' := ⟨h.cells, h.frozen⟩

theorem Room.wrote {w w' : World} {b off n o : Nat} {vs : List Value} (h : Room w b off n) (k : Wrote b o vs w w') (hs : w.heap.size ≤ w'.heap.size) : Room w' b off n := by
  refine ⟨by have := h.lt; omega, fun i hi => ?_⟩
  obtain ⟨h1, h2⟩ := h.cell i hi
  rw [k.cells, k.frozen]
  refine ⟨?_, h2⟩
  split
  · rename_i hc
    rw [List.getElem?_eq_getElem (by omega)]; rfl
  · exact h1
theorem Room.part {w : World} {b off n : Nat} (h : Room w b off n) (k m : Nat) (hk : k + m ≤ n) : Room w b (off + k) m :=
  ⟨h.lt, fun i hi => by have := h.cell (k + i) (by omega); rwa [← Nat.add_assoc] at this⟩
theorem Room.drew {w : World} {b off n : Nat} (h : Room w b off n) : Room w.drew b off n := ⟨h.lt, h.cell⟩
theorem Room.drewN {w : World} {b off n : Nat} (h : Room w b off n) (k : Nat) : Room (w.drewN k) b off n := ⟨h.lt, h.cell⟩
theorem Room.mod {L : Nat → Prop} {w w' : World} {b off n : Nat} (h : Room w b off n) (m : Mod L w w') (hl : ¬ L b) : Room w' b off n :=
  ⟨Nat.lt_of_lt_of_le h.lt m.size, fun i hi => by rw [m.cell h.lt hl, m.frozen h.lt hl]; exact h.cell i hi⟩

/-- A piece of a function's text: 0 and 1 are the two parts of a sequence, of an 'if'; 0 is what stands in a block, a loop, a scope. -/
def navc : List Nat → Code → Code
  | [], c => c
  | 0 :: p, .seq a _ => navc p a
  | _ :: p, .seq _ b => navc p b
  | 0 :: p, .cond _ a _ => navc p a
  | _ :: p, .cond _ _ b => navc p b
  | _ :: p, .block _ b => navc p b
  | _ :: p, .loop b => navc p b
  | _ :: p, .scope b => navc p b
  | _, _ => .skip

/-- A function's text. -/
def textOf (f : Func) : Code := f.body.getD .skip

/-- Bytes as cells. -/
def bytesV (l : List UInt8) : List Value := l.map fun x => .int .u8 x.toNat

@[simp] theorem bytesV_length (l : List UInt8) : (bytesV l).length = l.length := by simp [bytesV]
theorem bytesV_append (l m : List UInt8) : bytesV (l ++ m) = bytesV l ++ bytesV m := by simp [bytesV]
theorem bytesV_get (l : List UInt8) (i : Nat) (h : i < l.length) : (bytesV l)[i]'(by simpa using h) = .int .u8 (l[i].toNat : Nat) := by simp [bytesV]

/-- Block b holds bytes from off on. -/
def Bytes (w : World) (b off : Nat) (l : List UInt8) : Prop := ∀ i (h : i < l.length), w.cell? ⟨b, off + i, none⟩ = some (.int .u8 (l[i].toNat : Nat))

theorem Bytes.mod {L : Nat → Prop} {w w' : World} {b off : Nat} {l : List UInt8} (h : Bytes w b off l) (m : Mod L w w') (hb : b < w.heap.size) (hl : ¬ L b) : Bytes w' b off l :=
  fun i hi => by rw [m.cell hb hl]; exact h i hi
theorem Bytes.of_wrote {w w' : World} {b off : Nat} {l : List UInt8} (h : Wrote b off (bytesV l) w w') : Bytes w' b off l :=
  fun i hi => by rw [h.at i (by simpa using hi), bytesV_get l i hi]

/-- A body's post is monotone. -/
theorem bodyPost_mono {P : Program} {fn : Func} {R R' : Ending → World → Prop} (h : ∀ e w, R e w → R' e w) {e : Exit} {a : Act} {w : World} (q : bodyPost P fn R e a w) : bodyPost P fn R' e a w := by
  cases e <;> first | exact q | exact h _ _ q | (obtain ⟨h1, v, h2, h3⟩ := q; exact ⟨h1, v, h2, h _ _ h3⟩) | (obtain ⟨h1, h3⟩ := q; exact ⟨h1, h _ _ h3⟩)

end Go.Png
namespace Go.Png
set_option linter.unusedVariables false
set_option linter.unusedSimpArgs false
open Go.RowKit

/-- The world with cells written from one place on. -/
def setCells (w : World) (b o : Nat) : List Value → World
  | [] => w
  | v :: r => setCells (w.setCell ⟨b, o, none⟩ v) b (o + 1) r

theorem setCells_size (b : Nat) : ∀ (vs : List Value) (o : Nat) (w : World), (setCells w b o vs).heap.size = w.heap.size
  | [], _, _ => rfl
  | v :: r, o, w => by rw [setCells, setCells_size b r]; simp [World.setCell]

theorem setCells_mod (b : Nat) : ∀ (vs : List Value) (o : Nat) (w : World), Mod (fun k => k = b) w (setCells w b o vs)
  | [], _, w => Mod.refl _ w
  | v :: r, o, w => ((Mod.refl (fun k => k = b) w).setCell (p := ⟨b, o, none⟩) (Or.inl rfl) v).trans (setCells_mod b r (o + 1) _)

theorem Room.setCell {w : World} {b off n : Nat} (h : Room w b off n) (o : Nat) (v : Value) : Room (w.setCell ⟨b, o, none⟩ v) b off n := by
  refine ⟨by simpa [World.setCell] using h.lt, fun i hi => ?_⟩
  obtain ⟨h1, h2⟩ := h.cell i hi
  refine ⟨?_, by simpa using h2⟩
  by_cases he : off + i = o
  · subst he
    obtain ⟨u, hu⟩ := Option.isSome_iff_exists.1 h1
    rw [World.cell?_setCell_same _ _ _ hu]; rfl
  · rw [World.cell?_setCell_other _ _ _ _ (fun e => he (congrArg Addr.off e).symm)]; exact h1

theorem setCells_wrote (b : Nat) : ∀ (vs : List Value) (o : Nat) (w : World), Room w b o vs.length → Wrote b o vs w (setCells w b o vs)
  | [], o, w, _ => Wrote.nil b o w
  | v :: r, o, w, hr => by
    have hr' : Room (w.setCell ⟨b, o, none⟩ v) b (o + 1) r.length := (hr.setCell o v).part 1 r.length (by simp; omega)
    have ih := setCells_wrote b r (o + 1) _ hr'
    have h1 : Wrote b o [v] w (w.setCell ⟨b, o, none⟩ v) := by
      obtain ⟨h1, h2⟩ := hr.cell 0 (by simp)
      obtain ⟨u, hu⟩ := Option.isSome_iff_exists.1 h1
      rw [Nat.add_zero] at hu
      refine ⟨fun q => ?_, fun q => by simp⟩
      by_cases hq : q = o
      · subst hq
        rw [World.cell?_setCell_same _ _ _ hu, if_pos (by simp)]; simp
      · rw [World.cell?_setCell_other _ _ _ _ (fun e => hq (congrArg Addr.off e).symm), if_neg (by simp; omega)]
    exact h1.append (by rw [setCells]; exact ih)

theorem run_storeCells_room (P : Program) (b off : Nat) : ∀ (vs : List Value) (i : Nat) (w : World), Room w b (off + i) vs.length → (∀ v ∈ vs, v.oneCell' = true) →
    (storeCells ⟨b, off, none⟩ vs i).run P w = .ok () (setCells w b (off + i) vs)
  | [], i, w, _, _ => rfl
  | v :: r, i, w, hr, h1 => by
    obtain ⟨h2, h3⟩ := hr.cell 0 (by simp)
    obtain ⟨u, hu⟩ := Option.isSome_iff_exists.1 h2
    have hadd : (⟨b, off, none⟩ : Addr).add i = ⟨b, off + i, none⟩ := by unfold Addr.add; split <;> simp_all
    have hst : (store ((⟨b, off, none⟩ : Addr).add i) v).run P w = .ok () (w.setCell ⟨b, off + i, none⟩ v) := by
      rw [hadd, run_store P w _ v _ (h1 v (by simp)), show w.cell? ⟨b, off + i, none⟩ = some u from hu]
      simp [show w.frozen? ⟨b, off + i, none⟩ = false from h3]
    have hr' : Room (w.setCell ⟨b, off + i, none⟩ v) b (off + (i + 1)) r.length := by
      have := (hr.setCell (off + i) v).part 1 r.length (by simp; omega)
      rwa [Nat.add_assoc] at this
    have ih := run_storeCells_room P b off r (i + 1) _ hr' (fun x hx => h1 x (by simp [hx]))
    simp only [storeCells, Sem.run_bind, hst, Result.andThen_ok, ih]
    rw [setCells, Nat.add_assoc]

theorem run_copy_room (P : Program) (w : World) (dT sT ty elem : TypeId) (b off dLen dCap : Nat) (ad : Addr) (sLen sCap : Nat) (cs : List Value)
    (hu : P.underlying dT = some (.slice elem)) (hs : (P.info? elem).map (·.size) = some 1) (hn : cs.length = Nat.min sLen dLen)
    (hsrc : ∀ j v, cs[j]? = some v → w.cell? (ad.add j) = some v) (hr : Room w b off cs.length) (h1 : ∀ v ∈ cs, v.oneCell' = true) :
    (Builtin.copy_ #[dT, sT] ty #[.slice (some ⟨b, off, none⟩) dLen dCap, .slice (some ad) sLen sCap]).run P w = .ok (goInt cs.length) (setCells w b off cs) := by
  have hl := run_loadCells_list (P := P) w ad cs hsrc
  have hst := run_storeCells_room P b off cs 0 w (by simpa using hr) h1
  cases hq : P.info? elem with
  | none => simp [hq] at hs
  | some i =>
    have hi : i.size = 1 := by simpa [hq] using hs
    simp [Builtin.copy_, run_underlying hu, Builtin.lenOf, Builtin.firstCells, sizeOf, typeInfo, hq, hi, ← hn, hl, hst]

/-- copy as a step of the walk. -/
theorem wpList_copy_room {P : Program} {w : World} {ops : Array Oper} {rest : List Oper} {o : Oper} {a : Act} {Q : Exit → Act → World → Prop} (hgd : o.guard = none) (d s : Operand) (dT sT : TypeId)
    (ho : o.op = .call { callee := .builtin .copy, args := #[d, s], argTypes := #[dT, sT] }) (elem : TypeId) (hu : P.underlying dT = some (.slice elem)) (hsz : (P.info? elem).map (·.size) = some 1)
    (b off dLen dCap : Nat) (ad : Addr) (sLen sCap : Nat) (hd : a.eval d = .slice (some ⟨b, off, none⟩) dLen dCap) (hs : a.eval s = .slice (some ad) sLen sCap)
    (cs : List Value) (hn : cs.length = Nat.min sLen dLen)
    (hsrc : ∀ j v, cs[j]? = some v → w.cell? (ad.add j) = some v) (hr : Room w b off cs.length) (h1 : ∀ v ∈ cs, v.oneCell' = true)
    (h : ∀ w', Hid (Wrote b off cs w w') → Hid (Mod (fun k => k = b) w w') → wpList P ops Q rest (a.put o.dst (goInt cs.length)) w') : wpList P ops Q (o :: rest) a w := by
  refine wpList_plain hgd fun K hK => ?_
  have hrun := run_copy_room P w dT sT o.type elem b off dLen dCap ad sLen sCap cs hu hsz hn hsrc hr h1
  unfold Oper.wp
  simp [execOp, ho, resolve, invoke, builtin, hd, hs, hrun, Result.andThen]
  exact hK _ _ (h _ (Lib.hid (setCells_wrote b cs off w hr)) (Lib.hid (setCells_mod b cs off w)))

theorem step_copy_room {P : Program} {ops : Array Oper} {o : Oper} {a : Act} {w : World} {K : Act → World → Prop} {Q : Exit → Act → World → Prop} {E : Prop} (hgd : o.guard = none) (d s : Operand) (dT sT : TypeId)
    (ho : o.op = .call { callee := .builtin .copy, args := #[d, s], argTypes := #[dT, sT] }) (elem : TypeId) (hu : P.underlying dT = some (.slice elem)) (hsz : (P.info? elem).map (·.size) = some 1)
    (b off dLen dCap : Nat) (ad : Addr) (sLen sCap : Nat) (hd : a.eval d = .slice (some ⟨b, off, none⟩) dLen dCap) (hs : a.eval s = .slice (some ad) sLen sCap)
    (cs : List Value) (hn : cs.length = Nat.min sLen dLen)
    (hsrc : ∀ j v, cs[j]? = some v → w.cell? (ad.add j) = some v) (hr : Room w b off cs.length) (h1 : ∀ v ∈ cs, v.oneCell' = true)
    (h : ∀ w', Hid (Wrote b off cs w w') → Hid (Mod (fun k => k = b) w w') → K (a.put o.dst (goInt cs.length)) w') :
    if Region.wanted o (yielded ops a.tmps) = true then Oper.wp P o a w K Q else E := by
  have hw : Region.wanted o (yielded ops a.tmps) = true := by simp [Region.wanted, hgd]
  rw [if_pos hw]
  have hrun := run_copy_room P w dT sT o.type elem b off dLen dCap ad sLen sCap cs hu hsz hn hsrc hr h1
  unfold Oper.wp
  simp [execOp, ho, resolve, invoke, builtin, hd, hs, hrun, Result.andThen]
  exact h _ (Lib.hid (setCells_wrote b cs off w hr)) (Lib.hid (setCells_mod b cs off w))

theorem addr_add (b off j : Nat) : (⟨b, off, none⟩ : Addr).add j = ⟨b, off + j, none⟩ := by unfold Addr.add; split <;> simp_all
theorem bytesV_one (l : List UInt8) : ∀ v ∈ bytesV l, v.oneCell' = true := by
  intro v hv
  unfold bytesV at hv
  obtain ⟨x, _, rfl⟩ := List.mem_map.1 hv
  rfl
theorem Bytes.src {w : World} {b off : Nat} {l : List UInt8} (h : Bytes w b off l) (m : Nat) : ∀ j v, (bytesV (l.take m))[j]? = some v → w.cell? ((⟨b, off, none⟩ : Addr).add j) = some v := by
  intro j v hj
  obtain ⟨hj1, rfl⟩ := List.getElem?_eq_some_iff.1 hj
  have hj2 : j < (l.take m).length := by simpa using hj1
  rw [bytesV_get _ _ hj2, List.getElem_take, addr_add]
  exact h j (by simp at hj2; omega)

/-- copy of bytes: as many as the shorter one has. -/
theorem wpList_copy_bytes {P : Program} {w : World} {ops : Array Oper} {rest : List Oper} {o : Oper} {a : Act} {Q : Exit → Act → World → Prop} (hgd : o.guard = none) (d s : Operand) (dT sT : TypeId)
    (ho : o.op = .call { callee := .builtin .copy, args := #[d, s], argTypes := #[dT, sT] }) (elem : TypeId) (hu : P.underlying dT = some (.slice elem)) (hsz : (P.info? elem).map (·.size) = some 1)
    (b off dLen dCap : Nat) (sb so sLen sCap : Nat) (hd : a.eval d = .slice (some ⟨b, off, none⟩) dLen dCap) (hs : a.eval s = .slice (some ⟨sb, so, none⟩) sLen sCap)
    (l : List UInt8) (m : Nat) (hl : l.length = sLen) (hm : m = Nat.min sLen dLen) (hb : Bytes w sb so l) (hr : Room w b off dLen)
    (h : ∀ w', Hid (Wrote b off (bytesV (l.take m)) w w') → Hid (Mod (fun k => k = b) w w') → wpList P ops Q rest (a.put o.dst (goInt m)) w') : wpList P ops Q (o :: rest) a w := by
  have hmd : m ≤ dLen ∧ m ≤ l.length := by rw [hl, hm]; exact ⟨Nat.min_le_right _ _, Nat.min_le_left _ _⟩
  have hlen : (bytesV (l.take m)).length = m := by simp; omega
  refine wpList_copy_room hgd d s dT sT ho elem hu hsz b off dLen dCap ⟨sb, so, none⟩ sLen sCap hd hs (bytesV (l.take m)) (by rw [hlen, hm]) (hb.src m) (by rw [hlen]; have := hr.part 0 m (by omega); simpa using this) (bytesV_one _) ?_
  rw [hlen]; exact h

end Go.Png
