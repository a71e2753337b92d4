/- append on a slice of the call's own, for the program's element types. The thin package's small functions: a copy of bytes, the kind of pixels, the colors of a palette. No conditions but those in each theorem's own binders. -/
import Derived.Test.YtnpkgmgedgcjmaaGreatDoorCE1
import Derived.Test.YtnpkgmgedgcjmaaGreatDoorProg
import Derived.Maps.AppendAt
import Derived.OwnWalk
import Derived.Laws.OwnMore
import Derived.Deep.Onto
import Derived.Deep.RegionLaw
import Derived.Deep.AppendLies
import Derived.Test.YtnpkgmgedgcjmaaGreatDoorCE16
namespace Go.Proofs.YtnpkgmgedgcjmaaGreatDoor
set_option linter.unusedVariables false
set_option linter.unusedSimpArgs false
open Go.RowKit Go.Png

/-- A slice type, its element's, and the element's size. -/
structure El (T E : TypeId) (size bytes : Nat) : Prop where
  ht : Tryz.prog.underlying T = some (.slice E)
  info : ∃ i z, Tryz.prog.info? E = some i ∧ i.zero = some z ∧ i.size = size ∧ i.bytes = bytes ∧ z.cells.size = size
  pos : 0 < size

theorem el_of {T E : TypeId} {size bytes : Nat} {z : Value} (ht : Tryz.prog.underlying T = some (.slice E)) (h : (Tryz.prog.info? E).map (fun i => (i.zero, i.size, i.bytes)) = some (some z, size, bytes)) (hz : z.cells.size = size) (hp : 0 < size) : El T E size bytes := by
  obtain ⟨i, h1, h2, h3, h4⟩ := info_parts h
  exact ⟨ht, ⟨i, z, h1, h2, h3, h4, hz⟩, hp⟩

theorem el8 : El 24 5 1 1 := el_of Tryz.underlying24 (z := .int .u8 0) (by kernel_rfl) rfl (by decide)
theorem elI : El 27 3 1 8 := el_of Tryz.underlying27 (z := .int .i64 0) (by kernel_rfl) rfl (by decide)
theorem elD : El 28 75 4 32 := el_of Tryz.underlying28 (z := .agg #[.int .i64 0, .int .i64 0, .int .i64 0, .int .i64 0]) (by kernel_rfl) rfl (by decide)
theorem elS : El 39 96 4 4 := el_of Tryz.underlying39 (z := .agg #[.int .u8 0, .int .u8 0, .int .u8 0, .int .u8 0]) (by kernel_rfl) rfl (by decide)

/-- What an append on an own slice leaves: its value, and what became of the world. -/
structure Appd (base : Nat) (E : TypeId) (size : Nat) (v : Value) (n m : Nat) (xs news : List Value) (w : World) (g c : Nat) (w' : World) : Prop where
  own : w'.ownsRow base E size (.slice (some ⟨g, 0, none⟩) (n + m) c) (n + m) (xs ++ news)
  grown : w.grownBy w' v.ownBlock
  blk : v.ownBlock = some g ∨ g = w.heap.size
  lt : g < w'.heap.size

theorem run_app {T E : TypeId} {size bytes : Nat} (hel : El T E size bytes) (ty : TypeId) (w : World) (base : Nat) (v : Value) (n : Nat) (xs : List Value) (hown : w.ownsRow base E size v n xs)
    (ad : Addr) (m c : Nat) (news : List Value) (hl : news.length = m * size) (hnews : ∀ j u, news[j]? = some u → w.cell? (ad.add j) = some u) (h1 : ∀ u ∈ news, u.oneCell' = true)
    (hm : v ≠ .slice none 0 0 ∨ 0 < m) (hbytes : (n + m) * bytes ≤ 140737488355328) (h63 : n + m ≤ 140737488355328) (hbase : base ≤ w.heap.size) :
    ∃ g c' w', (Builtin.append_ #[T, T] ty #[v, .slice (some ad) m c]).run Tryz.prog w = .ok (.slice (some ⟨g, 0, none⟩) (n + m) c') w' ∧ Appd base E size v n m xs news w g c' w' := by
  obtain ⟨i, z, hi, hz, hs, hb, hzs⟩ := hel.info
  obtain ⟨v', w', h2, h3, h4, h5, h6⟩ := run_append_own_at w base T ty E i z size bytes hel.ht hi hz hs hb hzs hel.pos v n xs hown ad m c news hl hnews h1 (by unfold maxLen; omega) hbytes hbase
  rcases h3.2 with ⟨hn, hz0⟩ | ⟨g, cap, cur, rfl, hbg, hg, hnc, hcm, hsz, htk⟩
  · have := h5.1 hn
    rcases hm with hm | hm
    · exact absurd this.1 hm
    · omega
  · refine ⟨g, cap, w', h2, h3, h4, ?_, (Array.getElem?_eq_some_iff.1 hg).1⟩
    rcases h6 with h6 | h6
    · exact Or.inl h6.symm
    · simp [Value.ownBlock] at h6; exact Or.inr h6

/-- append as a step of the walk. -/
theorem wpList_app {T E : TypeId} {size bytes : Nat} (hel : El T E size bytes) {w : World} {ops : Array Oper} {rest : List Oper} {o : Oper} {a : Act} {Q : Exit → Act → World → Prop} (hgd : o.guard = none) (s x : Operand)
    (ho : o.op = .call { callee := .builtin .append, args := #[s, x], argTypes := #[T, T] }) (base : Nat) (v : Value) (n : Nat) (xs : List Value) (hs : a.eval s = v) (hown : w.ownsRow base E size v n xs)
    (ad : Addr) (m c : Nat) (news : List Value) (hx : a.eval x = .slice (some ad) m c) (hl : news.length = m * size) (hnews : ∀ j u, news[j]? = some u → w.cell? (ad.add j) = some u) (h1 : ∀ u ∈ news, u.oneCell' = true)
    (hm : v ≠ .slice none 0 0 ∨ 0 < m) (hbytes : (n + m) * bytes ≤ 140737488355328) (h63 : n + m ≤ 140737488355328) (hbase : base ≤ w.heap.size)
    (h : ∀ g c' w', Hid (Appd base E size v n m xs news w g c' w') → wpList Tryz.prog ops Q rest (a.put o.dst (.slice (some ⟨g, 0, none⟩) (n + m) c')) w') : wpList Tryz.prog ops Q (o :: rest) a w := by
  refine wpList_plain hgd fun K hK => ?_
  obtain ⟨g, c', w', hrun, hap⟩ := run_app hel o.type w base v n xs hown ad m c news hl hnews h1 hm hbytes h63 hbase
  unfold Oper.wp
  simp [execOp, ho, resolve, invoke, builtin, hs, hx, hrun, Result.andThen]
  exact hK _ _ (h g c' w' (Lib.hid hap))

theorem step_app {T E : TypeId} {size bytes : Nat} (hel : El T E size bytes) {w : World} {ops : Array Oper} {o : Oper} {a : Act} {K : Act → World → Prop} {Q : Exit → Act → World → Prop} {F : Prop} (hgd : o.guard = none) (s x : Operand)
    (ho : o.op = .call { callee := .builtin .append, args := #[s, x], argTypes := #[T, T] }) (base : Nat) (v : Value) (n : Nat) (xs : List Value) (hs : a.eval s = v) (hown : w.ownsRow base E size v n xs)
    (ad : Addr) (m c : Nat) (news : List Value) (hx : a.eval x = .slice (some ad) m c) (hl : news.length = m * size) (hnews : ∀ j u, news[j]? = some u → w.cell? (ad.add j) = some u) (h1 : ∀ u ∈ news, u.oneCell' = true)
    (hm : v ≠ .slice none 0 0 ∨ 0 < m) (hbytes : (n + m) * bytes ≤ 140737488355328) (h63 : n + m ≤ 140737488355328) (hbase : base ≤ w.heap.size)
    (h : ∀ g c' w', Hid (Appd base E size v n m xs news w g c' w') → K (a.put o.dst (.slice (some ⟨g, 0, none⟩) (n + m) c')) w') :
    if Region.wanted o (yielded ops a.tmps) = true then Oper.wp Tryz.prog o a w K Q else F := by
  have hw : Region.wanted o (yielded ops a.tmps) = true := by simp [Region.wanted, hgd]
  rw [if_pos hw]
  obtain ⟨g, c', w', hrun, hap⟩ := run_app hel o.type w base v n xs hown ad m c news hl hnews h1 hm hbytes h63 hbase
  unfold Oper.wp
  simp [execOp, ho, resolve, invoke, builtin, hs, hx, hrun, Result.andThen]
  exact h g c' w' (Lib.hid hap)

/-- append of nothing. -/
theorem wpList_app_nil {T E : TypeId} {size bytes : Nat} (hel : El T E size bytes) {w : World} {ops : Array Oper} {rest : List Oper} {o : Oper} {a : Act} {Q : Exit → Act → World → Prop} (hgd : o.guard = none) (s x : Operand)
    (ho : o.op = .call { callee := .builtin .append, args := #[s, x], argTypes := #[T, T] }) (base : Nat) (v : Value) (n : Nat) (xs : List Value) (hs : a.eval s = v) (hown : w.ownsRow base E size v n xs) (hx : a.eval x = .slice none 0 0)
    (h : wpList Tryz.prog ops Q rest (a.put o.dst v) w) : wpList Tryz.prog ops Q (o :: rest) a w := by
  obtain ⟨i, z, hi, hz, hsz, hb, hzs⟩ := hel.info
  refine wpList_plain hgd fun K hK => ?_
  have hrun := run_append_owned_none (P := Tryz.prog) w base T o.type E i size hel.ht hi v n xs hown
  unfold Oper.wp
  simp [execOp, ho, resolve, invoke, builtin, hs, hx, hrun, Result.andThen]
  exact hK _ _ h

/-- A slice of bytes of the call's own. -/
def Own8 (w : World) (base : Nat) (g c : Nat) (l : List UInt8) : Prop := w.ownsRow base 5 1 (.slice (some ⟨g, 0, none⟩) l.length c) l.length (bytesV l)

theorem Own8.bytes {w : World} {base g c : Nat} {l : List UInt8} (h : Own8 w base g c l) : Bytes w g 0 l := fun i hi => by
  have := World.ownsRow.cellAt h i (by omega)
  rw [Nat.zero_add, this, List.getElem?_eq_getElem (by simpa using hi), bytesV_get l i hi]
theorem Own8.base {w : World} {base g c : Nat} {l : List UInt8} (h : Own8 w base g c l) : base ≤ g ∧ g < w.heap.size := World.ownsRow.lt h g rfl
theorem Own8.cap {w : World} {base g c : Nat} {l : List UInt8} (h : Own8 w base g c l) : l.length ≤ c ∧ c ≤ maxLen := by
  rcases h.2 with ⟨h', _⟩ | ⟨g', cap', cur, h', _, hg, hnc, hcm, _⟩
  · simp at h'
  · simp only [Value.slice.injEq, Option.some.injEq, Addr.mk.injEq, and_true, true_and] at h'
    obtain ⟨rfl, rfl⟩ := h'
    exact ⟨hnc, hcm⟩
theorem ownsRow_mod {w w' : World} {base : Nat} {E : TypeId} {size : Nat} {g n c : Nat} {xs : List Value} (h : w.ownsRow base E size (.slice (some ⟨g, 0, none⟩) n c) n xs) {S : Nat → Prop} (m : Mod S w w') (hS : ¬ S g) :
    w'.ownsRow base E size (.slice (some ⟨g, 0, none⟩) n c) n xs := by
  have hb := World.ownsRow.lt h g rfl
  refine ⟨h.1, ?_⟩
  rcases h.2 with hn | ⟨g', cap, cur, hv, hbb, hgg, rest⟩
  · exact .inl hn
  · simp only [Value.slice.injEq, Option.some.injEq, Addr.mk.injEq, and_true, true_and] at hv
    obtain ⟨rfl, rfl⟩ := hv
    exact .inr ⟨g, c, cur, rfl, hbb, (m.block g hb.2 hS).trans hgg, rest⟩
theorem Own8.mod {w w' : World} {base g c : Nat} {l : List UInt8} (h : Own8 w base g c l) {S : Nat → Prop} (m : Mod S w w') (hS : ¬ S g) : Own8 w' base g c l := by
  have hb := h.base
  refine ⟨h.1, ?_⟩
  rcases h.2 with hn | ⟨g', cap, cur, hv, hbb, hgg, rest⟩
  · exact .inl hn
  · simp only [Value.slice.injEq, Option.some.injEq, Addr.mk.injEq, and_true, true_and] at hv
    obtain ⟨rfl, rfl⟩ := hv
    exact .inr ⟨g, c, cur, rfl, hbb, (m.block g hb.2 hS).trans hgg, rest⟩
theorem Own8.mono {w : World} {base base' g c : Nat} {l : List UInt8} (h : Own8 w base g c l) (hb : base' ≤ base) : Own8 w base' g c l := World.ownsRow.mono h hb
theorem Own8.new (w : World) (base : Nat) (hb : base ≤ w.heap.size) : Own8 (w.alloc (.cells #[] 5)) base w.heap.size 0 [] :=
  World.ownsRow_made w #[] 0 hb (Nat.zero_le _) rfl

theorem Appd.own8 {base g0 c0 : Nat} {l l2 : List UInt8} {m : Nat} {w : World} {g c : Nat} {w' : World} (hm : l2.length = m) (h : Appd base 5 1 (.slice (some ⟨g0, 0, none⟩) l.length c0) l.length m (bytesV l) (bytesV l2) w g c w') : Own8 w' base g c (l ++ l2) := by
  subst hm
  have := h.own
  rw [← bytesV_append, ← List.length_append] at this
  exact this
theorem Appd.mod {base : Nat} {E : TypeId} {size : Nat} {v : Value} {n m : Nat} {xs news : List Value} {w : World} {g c : Nat} {w' : World} (h : Appd base E size v n m xs news w g c w') : Mod (fun k => v.ownBlock = some k) w w' :=
  ⟨h.grown.os, h.grown.tape, h.grown.output, h.grown.size, fun k hk hn => h.grown.block k hk (fun e => hn e.symm)⟩

theorem news1 (w : World) (l : List Value) (t : TypeId) : ∀ j u, l[j]? = some u → (w.alloc (.cells l.toArray t)).cell? ((⟨w.heap.size, 0, none⟩ : Addr).add j) = some u := fun j u hu => by
  rw [addr_add, Nat.zero_add, World.cell?_alloc_new]; simpa using hu
theorem news2 (w : World) (o : Obj) (l : List Value) (t : TypeId) : ∀ j u, l[j]? = some u → ((w.alloc o).alloc (.cells l.toArray t)).cell? ((⟨w.heap.size + 1, 0, none⟩ : Addr).add j) = some u := by
  have := news1 (w.alloc o) l t
  rwa [show (w.alloc o).heap.size = w.heap.size + 1 by simp] at this

end Go.Proofs.YtnpkgmgedgcjmaaGreatDoor
namespace Go.Proofs.YtnpkgmgedgcjmaaGreatDoor
set_option linter.unusedVariables false
set_option linter.unusedSimpArgs false
open Go.RowKit Go.Png

/-- What a call leaves that makes memory alone. -/
def News (w w' : World) : Prop := Mod (fun _ => False) w w'

set_option maxRecDepth 100000 in
set_option maxHeartbeats 1000000 in
theorem cloneB (w : World) (b off n c : Nat) (l : List UInt8) (hl : l.length = n) (hb : Bytes w b off l) (hn : n ≤ 140737488355328) :
    Calls Tryz.prog 43 #[.slice (some ⟨b, off, none⟩) n c] w fun e w' => ∃ g c', e = .returned (.slice (some ⟨g, 0, none⟩) n c') ∧ Own8 w' w.heap.size g c' l ∧ Mod (fun _ => False) w w' := by
  have h0 := Own8.new w w.heap.size (Nat.le_refl _)
  have hb1 : Bytes (w.alloc (.cells #[] 5)) b off l := fun i hi => by
    rw [World.cell?_alloc_old _ _ _ (Nat.ne_of_lt (lt_of_cell (hb i hi)))]; exact hb i hi
  have H0 := Lib.hid h0; have HB := Lib.hid hb1; have HL := Lib.hid hl
  clear h0 hb1 hb hl
  have hnil := fun wz : World => Lib.run_eql_slice_nil (P := Tryz.prog) wz 24 5 (some ⟨b, off, none⟩) n c 0 0 Tryz.underlying24
  go_enter Tryz.func43, Tryz.ntmps43
  go_wp2_with (at_builtin; go_must (refine wpList_app el8 rfl (.tmp 5) (.tmp 6) rfl w.heap.size (.slice (some ⟨w.heap.size, 0, none⟩) 0 0) 0 [] rfl H0.out ⟨b, off, none⟩ n c (bytesV l) rfl (by simp [HL.out]) (by simpa [List.take_of_length_le] using HB.out.src l.length) (bytesV_one l) (Or.inl (by simp)) (by omega) (by omega) (by simp) ?_; intro g c' w2 hap))
  go_ret
  have h2 : Own8 w2 w.heap.size g c' l := Appd.own8 (l := []) (m := n) HL.out (show Appd _ _ _ _ _ _ (bytesV []) _ _ _ _ _ from hap.out)
  refine ⟨g, c', rfl, h2, ?_⟩
  exact ((Mod.refl (fun _ => False) w).alloc _).then hap.out.mod (fun k hk he => by
    simp [Value.ownBlock] at he; omega)

/-- The thin package's number of a kind of pixels. -/
def kindN (k : Nat) : Nat := [0, 1, 2, 4, 8, 408, 208, 301, 302, 304, 308, 608, 16, 416, 216, 616].getD k 0

set_option maxRecDepth 100000 in
set_option maxHeartbeats 1000000 in
theorem implKindOf (w : World) (k : Nat) (hk : k < 16) :
    Calls Tryz.prog 53 #[.int .i64 k] w fun e w' => e = .returned (.int .i64 (kindN k : Nat)) ∧ w = w' := by
  have h : k = 0 ∨ k = 1 ∨ k = 2 ∨ k = 3 ∨ k = 4 ∨ k = 5 ∨ k = 6 ∨ k = 7 ∨ k = 8 ∨ k = 9 ∨ k = 10 ∨ k = 11 ∨ k = 12 ∨ k = 13 ∨ k = 14 ∨ k = 15 := by omega
  clear hk
  rcases h with rfl | rfl | rfl | rfl | rfl | rfl | rfl | rfl | rfl | rfl | rfl | rfl | rfl | rfl | rfl | rfl
  all_goals
    go_enter Tryz.func53, Tryz.ntmps53
    go_wp2
    go_ret
    exact ⟨rfl, rfl⟩

set_option maxRecDepth 100000 in
set_option maxHeartbeats 1000000 in
theorem newReader (w : World) (v : Value) (a : Option Addr) (n c : Nat) (hv : v = .slice a n c) :
    Calls Tryz.prog 42 #[v] w fun e w' => e = .returned (.pointer (some ⟨w.heap.size, 0, none⟩)) ∧ w.alloc (.cells #[v, .int .i64 0, .int .i64 (-1)] 121) = w' := by
  subst hv
  go_enter Tryz.func42, Tryz.ntmps42
  go_wp2
  go_ret
  exact ⟨rfl, rfl⟩

/-- The cells of the first j colors that are told of a palette. -/
def shadeC (m : Nat) (pl al : List UInt8) (i : Nat) : List Value :=
  [.int .u8 ((at_ pl (3 * i)).toNat : Nat), .int .u8 ((at_ pl (3 * i + 1)).toNat : Nat), .int .u8 ((at_ pl (3 * i + 2)).toNat : Nat), .int .u8 ((if i < m then at_ al i else 255 : UInt8).toNat : Nat)]
def shadesC (m : Nat) (pl al : List UInt8) : Nat → List Value
  | 0 => []
  | j + 1 => shadesC m pl al j ++ shadeC m pl al j

theorem as_nrgba (w : World) (r g b a : UInt8) : (Instr.typeAssert (nrgbaV r g b a) 140 141 true).run Tryz.prog w =
    .ok (.tuple #[.agg #[.int .u8 (r.toNat : Nat), .int .u8 (g.toNat : Nat), .int .u8 (b.toNat : Nat), .int .u8 (a.toNat : Nat)], .bool true]) w := by unfold nrgbaV; kernel_rfl
theorem as_nrgba_no (w : World) (r g b : UInt8) : (Instr.typeAssert (rgbaV r g b) 140 141 true).run Tryz.prog w =
    .ok (.tuple #[.agg #[.int .u8 0, .int .u8 0, .int .u8 0, .int .u8 0], .bool false]) w := by unfold rgbaV; kernel_rfl
theorem as_rgba (w : World) (r g b : UInt8) : (Instr.typeAssert (rgbaV r g b) 140 142 true).run Tryz.prog w =
    .ok (.tuple #[.agg #[.int .u8 (r.toNat : Nat), .int .u8 (g.toNat : Nat), .int .u8 (b.toNat : Nat), .int .u8 255], .bool true]) w := by unfold rgbaV; kernel_rfl

set_option maxRecDepth 100000 in
set_option maxHeartbeats 4000000 in
theorem implShades (w : World) (pb np m c : Nat) (pl al : List UInt8) (hnp : np ≤ 256) (hc : ∀ i, i < np → w.cell? ⟨pb, i, none⟩ = some (palC np m pl al i)) :
    Calls Tryz.prog 54 #[.slice (some ⟨pb, 0, none⟩) np c] w fun e w' => ∃ v, e = .returned v ∧ w'.ownsRow w.heap.size 96 4 v np (shadesC m pl al np) ∧ Mod (fun _ => False) w w' := by
  have HC := Lib.hid hc
  clear hc
  go_enter Tryz.func54, Tryz.ntmps54
  go_wp2
  go_loopg [3, 5, 6, 7, 11] (np - 0) (fun k v3 _ _ _ v11 wr => ∃ (j : Nat) (v : Value), j ≤ np ∧ k = np - j ∧ v11 = .int .i64 j ∧ v = v3 ∧ wr.ownsRow w.heap.size 96 4 v j (shadesC m pl al j) ∧ Mod (fun k => w.heap.size ≤ k) w wr)
  case atStart => exact ⟨0, _, by omega, rfl, rfl, rfl, World.ownsRow_nil _ _ _ _, Mod.refl _ _⟩
  case round =>
    obtain ⟨j, v3, hj, hk, rfl, rfl, own, mm⟩ := hrel
    by_cases hlt : j < np
    · have cj := (mm.cell (lt_of_cell (HC.out j hlt)) (by have := lt_of_cell (HC.out j hlt); omega) j).trans (HC.out j hlt)
      have HO := Lib.hid own; have HM := Lib.hid mm; have HK := Lib.hid hk
      clear own mm hk
      by_cases hjm : j < m
      · rw [palC, if_pos hjm] at cj
        have ha := fun wz : World => as_nrgba wz (at_ pl (3 * j)) (at_ pl (3 * j + 1)) (at_ pl (3 * j + 2)) (at_ al j)
        go_wp2_with (at_builtin; go_must (refine wpList_app elS rfl (.tmp 23) (.tmp 33) rfl w.heap.size v3 j (shadesC m pl al j) rfl ((HO.out.alloc _).alloc _) ⟨wr.heap.size + 1, 0, none⟩ 1 1 _ rfl rfl (news2 wr _ [_, _, _, _] _) (by simp [Value.oneCell']) (Or.inr (by decide)) (by omega) (by omega) (by have := HM.out.size; simp; omega) ?_; intro g c' w2 hap))
        have hown := hap.out.own
        have hmod : Mod (fun k => w.heap.size ≤ k) w w2 := (((HM.out.alloc _).alloc _)).trans (hap.out.mod.mono (fun k _ hk => ((HO.out.lt) k hk).1))
        have hsc : shadesC m pl al (j + 1) = shadesC m pl al j ++ [.int .u8 ((at_ pl (3 * j)).toNat : Nat), .int .u8 ((at_ pl (3 * j + 1)).toNat : Nat), .int .u8 ((at_ pl (3 * j + 2)).toNat : Nat), .int .u8 ((at_ al j).toNat : Nat)] := by rw [shadesC, shadeC]; simp [hjm]
        rw [← hsc] at hown
        have HOWN := Lib.hid hown; have HMOD := Lib.hid hmod
        clear hown hmod hsc hap HO HM
        go_wp2
        go_roundg (np - (j + 1))
        case measure => have := HK.out; omega
        case rel => exact ⟨j + 1, _, by omega, rfl, by go_num, rfl, HOWN.out, HMOD.out⟩
      · rw [palC, if_neg hjm, palE, if_pos hlt] at cj
        have ha := fun wz : World => as_nrgba_no wz (at_ pl (3 * j)) (at_ pl (3 * j + 1)) (at_ pl (3 * j + 2))
        have hb := fun wz : World => as_rgba wz (at_ pl (3 * j)) (at_ pl (3 * j + 1)) (at_ pl (3 * j + 2))
        go_wp2_with (at_builtin; go_must (refine wpList_app elS rfl (.tmp 38) (.tmp 48) rfl w.heap.size v3 j (shadesC m pl al j) rfl ((HO.out.alloc _).alloc _) ⟨wr.heap.size + 1, 0, none⟩ 1 1 _ rfl rfl (news2 wr _ [_, _, _, _] _) (by simp [Value.oneCell']) (Or.inr (by decide)) (by omega) (by omega) (by have := HM.out.size; simp; omega) ?_; intro g c' w2 hap))
        have hown := hap.out.own
        have hmod : Mod (fun k => w.heap.size ≤ k) w w2 := (((HM.out.alloc _).alloc _)).trans (hap.out.mod.mono (fun k _ hk => ((HO.out.lt) k hk).1))
        have hsc : shadesC m pl al (j + 1) = shadesC m pl al j ++ [.int .u8 ((at_ pl (3 * j)).toNat : Nat), .int .u8 ((at_ pl (3 * j + 1)).toNat : Nat), .int .u8 ((at_ pl (3 * j + 2)).toNat : Nat), .int .u8 255] := by rw [shadesC, shadeC]; simp [hjm]
        rw [← hsc] at hown
        have HOWN := Lib.hid hown; have HMOD := Lib.hid hmod
        clear hown hmod hsc hap HO HM
        go_wp2
        go_roundg (np - (j + 1))
        case measure => have := HK.out; omega
        case rel => exact ⟨j + 1, _, by omega, rfl, by go_num, rfl, HOWN.out, HMOD.out⟩
    · obtain rfl : j = np := by omega
      have HO := Lib.hid own; have HM := Lib.hid mm
      clear own mm hk
      go_wp2
      go_ret
      exact ⟨v3, rfl, HO.out, (Mod.refl (fun _ => False) w).then HM.out (fun k hk hs => by omega)⟩
set_option maxRecDepth 100000 in
set_option maxHeartbeats 1000000 in
theorem implShades_nil (w : World) : Calls Tryz.prog 54 #[.slice none 0 0] w fun e w' => e = .returned (.slice none 0 0) ∧ w = w' := by
  go_enter Tryz.func54, Tryz.ntmps54
  go_wp2
  go_loopg [3, 11] 0 (fun k v3 v11 wr => v3 = .slice none 0 0 ∧ v11 = .int .i64 0 ∧ wr = w)
  case atStart => exact ⟨rfl, rfl, rfl⟩
  case round =>
    obtain ⟨rfl, rfl, rfl⟩ := hrel
    go_wp2
    go_ret
    exact ⟨rfl, rfl⟩
end Go.Proofs.YtnpkgmgedgcjmaaGreatDoor
