/- The reference's writer of bits: one bit. No conditions but those in each theorem's own binders. -/
import Derived.Test.YtnpkgmgedgcjmaaGreatDoorCE23
namespace Go.Proofs.YtnpkgmgedgcjmaaGreatDoor
set_option linter.unusedVariables false
set_option linter.unusedSimpArgs false
open Go.RowKit Go.Png

/-- One bit more. -/
def putOne (r : List UInt8) (k : Nat) (b : Bool) : List UInt8 :=
  let r2 := if k % 8 = 0 then r ++ [0] else r
  r2.set (k / 8) (r2.getD (k / 8) 0 ||| UInt8.ofNat (b.toNat * 2 ^ (k % 8)))
/-- Bits in bytes, the lowest of each byte first (told of the bits from the last one on). -/
def packR : List Bool → List UInt8
  | [] => []
  | b :: t => putOne (packR t) t.length b
def packL (bs : List Bool) : List UInt8 := packR bs.reverse

theorem packL_snoc (bs : List Bool) (b : Bool) : packL (bs ++ [b]) = putOne (packL bs) bs.length b := by
  unfold packL; rw [List.reverse_append, List.reverse_singleton, List.singleton_append, packR, List.length_reverse]
theorem packR_length (t : List Bool) : (packR t).length = (t.length + 7) / 8 := by
  induction t with
  | nil => rfl
  | cons b t ih => unfold packR putOne; simp only; split <;> simp [ih] <;> omega
theorem packL_length (bs : List Bool) : (packL bs).length = (bs.length + 7) / 8 := by unfold packL; rw [packR_length, List.length_reverse]

/-- The blocks from base on, but for some. -/
def Off (base : Nat) (F : Nat → Prop) (k : Nat) : Prop := base ≤ k ∧ ¬ F k
/-- The writer lies in block W; it has written bs; the blocks F are none of its own. -/
structure WrAt (w : World) (W base : Nat) (F : Nat → Prop) (bs : List Bool) : Prop where
  lo : base ≤ W
  nW : ¬ F W
  nF : ∀ k, F k → k < w.heap.size
  out : ∃ v, w.cell? ⟨W, 0, none⟩ = some v ∧ w.ownsRow base 5 1 v ((bs.length + 7) / 8) (bytesV (packL bs)) ∧ v.ownBlock ≠ some W ∧ ∀ k, v.ownBlock = some k → ¬ F k
  at_ : w.cell? ⟨W, 1, none⟩ = some (.int .i64 bs.length)
  fz : ∀ o, w.frozen? ⟨W, o, none⟩ = false

theorem WrAt.news {w w' : World} {W base : Nat} {F : Nat → Prop} {bs : List Bool} (h : WrAt w W base F bs) (m : Mod (fun _ => False) w w') : WrAt w' W base F bs := by
  obtain ⟨v, h1, h2, h3⟩ := h.out
  have hb := lt_of_cell h1
  refine ⟨h.lo, h.nW, fun k hk => Nat.lt_of_lt_of_le (h.nF k hk) m.size, ⟨v, (m.cell hb id 0).trans h1, ?_, h3⟩, (m.cell hb id 1).trans h.at_, fun o => (m.frozen hb id o).trans (h.fz o)⟩
  refine ⟨h2.1, ?_⟩
  rcases h2.2 with hn | ⟨g, cap, cur, hv, hbb, hgg, rest⟩
  · exact .inl hn
  · exact .inr ⟨g, cap, cur, hv, hbb, (m.block g (Array.getElem?_eq_some_iff.1 hgg).1 id).trans hgg, rest⟩

/-- The worlds behind the two stores that end a bit. -/
theorem wr_fin {w1 : World} {W base g c q N : Nat} {F : Nat → Prop} {R2 : List UInt8} {y : UInt8} {bs' : List Bool} (hlo : Off base F W) (hgF : ¬ F g) (hfl : ∀ k, F k → k < w1.heap.size) (own : w1.ownsRow base 5 1 (.slice (some ⟨g, 0, none⟩) (q + 1) c) (q + 1) (bytesV R2)) (hg : g ≠ W)
    (h0 : w1.cell? ⟨W, 0, none⟩ = some (.slice (some ⟨g, 0, none⟩) (q + 1) c)) (h1 : ∃ u, w1.cell? ⟨W, 1, none⟩ = some u) (hf : ∀ o, w1.frozen? ⟨W, o, none⟩ = false) (hN : bs'.length = N) (hq : (N + 7) / 8 = q + 1) (hR : packL bs' = R2.set q y) :
    WrAt ((w1.drew.setCell ⟨g, q, none⟩ (.int .u8 (y.toNat : Nat))).setCell ⟨W, 1, none⟩ (.int .i64 N)) W base F bs' ∧ Mod (Off base F) w1 ((w1.drew.setCell ⟨g, q, none⟩ (.int .u8 (y.toNat : Nat))).setCell ⟨W, 1, none⟩ (.int .i64 N)) := by
  have hgb := World.ownsRow.lt own g rfl
  have m1 : Mod (Off base F) w1 (w1.drew.setCell ⟨g, q, none⟩ (.int .u8 (y.toNat : Nat))) := ((Mod.refl _ w1).drew).setCell (Or.inl ⟨hgb.1, hgF⟩) _
  have m2 : Mod (fun k => k = W) (w1.drew.setCell ⟨g, q, none⟩ (.int .u8 (y.toNat : Nat))) ((w1.drew.setCell ⟨g, q, none⟩ (.int .u8 (y.toNat : Nat))).setCell ⟨W, 1, none⟩ (.int .i64 N)) := (Mod.refl (fun k => k = W) _).setCell (Or.inl rfl) _
  have hst := (World.ownsRow.stored (w := w1.drew) own q (.int .u8 (y.toNat : Nat))).1
  rw [bytesV_set, ← hR] at hst
  have hst2 := ownsRow_mod hst m2 hg
  obtain ⟨u, hu⟩ := h1
  subst hN
  refine ⟨⟨hlo.1, hlo.2, fun k hk => Nat.lt_of_lt_of_le (hfl k hk) (m1.trans (m2.mono (fun k _ hk => hk ▸ hlo))).size, ⟨.slice (some ⟨g, 0, none⟩) (q + 1) c, ?_, by rw [hq]; exact hst2, by simp [Value.ownBlock]; exact hg, fun k hk => by simp [Value.ownBlock] at hk; subst hk; exact hgF⟩, ?_, fun o => ?_⟩, m1.trans (m2.mono (fun k _ hk => hk ▸ hlo))⟩
  · rw [World.cell?_setCell_other _ _ _ _ (by simp), World.cell?_setCell_other _ _ _ _ (fun e => hg (congrArg Addr.block e))]; exact h0
  · exact World.cell?_setCell_same _ _ _ (by rw [World.cell?_setCell_other _ _ _ _ (fun e => hg (congrArg Addr.block e))]; exact hu)
  · simp only [World.frozen?_setCell]; exact hf o

theorem wr_fin2 {w1 : World} {W base g c q N : Nat} {F : Nat → Prop} {R2 : List UInt8} {y : UInt8} {bs' : List Bool} (hlo : Off base F W) (hgF : ¬ F g) (hfl : ∀ k, F k → k < w1.heap.size) (own : w1.ownsRow base 5 1 (.slice (some ⟨g, 0, none⟩) (q + 1) c) (q + 1) (bytesV R2)) (hg : g ≠ W)
    (h0 : w1.cell? ⟨W, 0, none⟩ = some (.slice (some ⟨g, 0, none⟩) (q + 1) c)) (h1 : ∃ u, w1.cell? ⟨W, 1, none⟩ = some u) (hf : ∀ o, w1.frozen? ⟨W, o, none⟩ = false) (hN : bs'.length = N) (hq : (N + 7) / 8 = q + 1) (hR : packL bs' = R2.set q y) :
    WrAt ((w1.setCell ⟨g, q, none⟩ (.int .u8 (y.toNat : Nat))).setCell ⟨W, 1, none⟩ (.int .i64 N)).drew W base F bs' ∧ Mod (Off base F) w1 ((w1.setCell ⟨g, q, none⟩ (.int .u8 (y.toNat : Nat))).setCell ⟨W, 1, none⟩ (.int .i64 N)).drew := by
  have h := wr_fin hlo hgF hfl own hg h0 h1 hf hN hq hR
  rw [World.setCell_drew, World.setCell_drew] at h
  exact h

theorem put_u8n (y : UInt8) (x s : Nat) (k : Int) (hk : k = ((2 ^ s : Nat) : Int)) (h : x * 2 ^ s < 256) : bits .or .u8 (y.toNat : Int) ((x : Int) * k) = (((y ||| UInt8.ofNat (x * 2 ^ s)).toNat : Nat) : Int) := by
  subst hk
  have e : ((x : Int) * ((2 ^ s : Nat) : Int)) = (((UInt8.ofNat (x * 2 ^ s)).toNat : Nat) : Int) := by
    rw [UInt8.toNat_ofNat', ← Int.natCast_mul]; congr 1; omega
  rw [e, or_u8]
theorem put_u8n0 (y : UInt8) (x : Nat) (h : x < 256) : bits .or .u8 (y.toNat : Int) (x : Int) = (((y ||| UInt8.ofNat (x * 2 ^ 0)).toNat : Nat) : Int) := by
  have := put_u8n y x 0 1 rfl (by omega)
  simpa using this

set_option maxRecDepth 100000 in
set_option maxHeartbeats 8000000 in
theorem wrOne (w : World) (W base : Nat) (F : Nat → Prop) (bs : List Bool) (b : Bool) (h : WrAt w W base F bs) (hbase : base ≤ w.heap.size) (hn : bs.length ≤ 1000000000) :
    Calls Tryz.prog 68 #[.pointer (some ⟨W, 0, none⟩), .int .i64 (b.toNat : Nat)] w fun e w' => e = .returned (.tuple #[]) ∧ WrAt w' W base F (bs ++ [b]) ∧ Mod (Off base F) w w' := by
  obtain ⟨hlo0, hnW, hnF, ⟨v, c0, own, hv, hvF⟩, c1, fz⟩ := h
  have hlo : Off base F W := ⟨hlo0, hnW⟩
  have HNF := Lib.hid hnF; have HVF := Lib.hid hvF
  clear hnF hvF hnW
  have hx : b.toNat < 2 := by cases b <;> decide
  have hpk := packL_snoc bs b
  have hpl := packL_length bs
  have f0 := fz 0; have f1 := fz 1
  have HFZ := Lib.hid fz; have HPK := Lib.hid hpk; have OWN := Lib.hid own; have HPL := Lib.hid hpl
  have hlenb : (bs ++ [b]).length = bs.length + 1 := by simp
  have HLB := Lib.hid hlenb
  clear fz hpk own hpl hlenb
  generalize hx0 : b.toNat = x at *
  generalize hN : bs.length = N at *
  obtain ⟨q, r, hqr, hr8⟩ : ∃ q r, N = 8 * q + r ∧ r < 8 := ⟨N / 8, N % 8, by omega, by omega⟩
  have hr9 : r = 0 ∨ r = 1 ∨ r = 2 ∨ r = 3 ∨ r = 4 ∨ r = 5 ∨ r = 6 ∨ r = 7 := by omega
  rcases hr9 with rfl | rfl | rfl | rfl | rfl | rfl | rfl | rfl
  · subst hqr
    have hsz : (8 * q + 0 + 7) / 8 = q := by omega
    have hown0 : w.ownsRow base 5 1 v q (bytesV (packL bs)) := by have := OWN.out; rwa [hsz] at this
    have HOWN0 := Lib.hid hown0
    have hWlt := lt_of_cell c0
    have hmul : IntKind.i64.wrap (8 * (q : Int)) = 8 * (q : Int) := IntWalk.i64_in _ (by omega)
    clear hsz hown0 OWN
    go_enter Tryz.func68, Tryz.ntmps68
    go_upto_region 2 with (at_builtin; go_must (refine wpList_app el8 rfl (.tmp 14) (.tmp 15) rfl base v q (bytesV (packL bs)) rfl (World.ownsRow.alloc HOWN0.out _) ⟨w.heap.size, 0, none⟩ 1 1 _ rfl rfl (news1 w [_] _) (by simp [Value.oneCell']) (Or.inr (by decide)) (by omega) (by omega) (by simp; omega) ?_; intro g c w1 hap; have hbk := hap.out.blk; have hm1 := ((Mod.refl (fun _ => False) w).alloc (.cells #[.int .u8 0] 5)); have gW : g ≠ W := (by rcases hbk with hbk | hbk; (intro e; subst e; exact hv hbk); (simp at hbk; omega)); have hWs : ¬ (v.ownBlock = some W) := hv; have d1 := (hap.out.mod.cell (by simp; omega) hWs 1).trans ((hm1.cell hWlt id 1).trans c1); have d0 := (hap.out.mod.cell (by simp; omega) hWs 0).trans ((hm1.cell hWlt id 0).trans c0); have df := (fun o => (hap.out.mod.frozen (by simp; omega) hWs o).trans ((hm1.frozen hWlt id o).trans (HFZ.out o))); have e0 := df 0; have e1 := df 1; have DF := Lib.hid df; clear df))
    have mst : Mod (fun k => k = W) w1 (w1.setCell ⟨W, 0, none⟩ (.slice (some ⟨g, 0, none⟩) (q + 1) c)) := (Mod.refl (fun k => k = W) w1).setCell (Or.inl rfl) _
    have own1 := hap.out.own
    have own2 : (w1.setCell ⟨W, 0, none⟩ (.slice (some ⟨g, 0, none⟩) (q + 1) c)).ownsRow base 5 1 (.slice (some ⟨g, 0, none⟩) (q + 1) c) (q + 1) (bytesV (packL bs ++ [0])) := by
      rw [bytesV_append]; exact ownsRow_mod own1 mst gW
    have k0 : (w1.setCell ⟨W, 0, none⟩ (.slice (some ⟨g, 0, none⟩) (q + 1) c)).cell? ⟨W, 0, none⟩ = some (.slice (some ⟨g, 0, none⟩) (q + 1) c) := World.cell?_setCell_same _ _ _ d0
    have k1 : (w1.setCell ⟨W, 0, none⟩ (.slice (some ⟨g, 0, none⟩) (q + 1) c)).cell? ⟨W, 1, none⟩ = some (.int .i64 (8 * (q : Int))) := (World.cell?_setCell_other _ _ _ _ (by simp)).trans (d1.trans (by simp))
    have kf : ∀ o, (w1.setCell ⟨W, 0, none⟩ (.slice (some ⟨g, 0, none⟩) (q + 1) c)).frozen? ⟨W, o, none⟩ = false := fun o => by simp only [World.frozen?_setCell]; exact DF.out o
    have mall : Mod (Off base F) w (w1.setCell ⟨W, 0, none⟩ (.slice (some ⟨g, 0, none⟩) (q + 1) c)) := (((Mod.refl (Off base F) w).alloc _).trans (hap.out.mod.mono (fun k _ hk => ⟨(HOWN0.out.lt k hk).1, HVF.out k hk⟩))).trans (mst.mono (fun k _ hk => hk ▸ hlo))
    have hr2 : packL (bs ++ [b]) = (packL bs ++ [0]).set q ((packL bs ++ [0]).getD q 0 ||| UInt8.ofNat (x * 2 ^ 0)) := by
      have h := HPK.out
      rw [h, putOne]
      simp only [hx0, show (8 * q + 0) % 8 = 0 by omega, show (8 * q + 0) / 8 = q by omega, reduceIte]
    have HR2 := Lib.hid hr2
    clear hr2
    have hgF : ¬ F g := by rcases hap.out.blk with hbk | hbk; exact HVF.out g hbk; intro hk; have := HNF.out g hk; simp at hbk; omega
    have hfl : ∀ k, F k → k < (w1.setCell ⟨W, 0, none⟩ (.slice (some ⟨g, 0, none⟩) (q + 1) c)).heap.size := fun k hk => Nat.lt_of_lt_of_le (HNF.out k hk) mall.size
    have HGF := Lib.hid hgF; have HFL := Lib.hid hfl
    clear hgF hfl
    have OW := Lib.hid own2; have MALL := Lib.hid mall; have D0 := Lib.hid k0; have D1 := Lib.hid k1; have KF := Lib.hid kf
    clear own1 own2 mst k0 k1 kf mall hap hbk hm1 d0 d1 DF e0 e1 HFZ c0 c1 f0 f1 hmul HOWN0
    have DF := KF
    have e0 := DF.out 0; have e1 := DF.out 1
    generalize packL bs ++ [0] = R2 at *
    generalize w1.setCell ⟨W, 0, none⟩ (.slice (some ⟨g, 0, none⟩) (q + 1) c) = w2 at *
    have hyq := own_byte OW.out q (by omega)
    have hfq := World.ownsRow.frozenAt OW.out q
    clear HPK
    generalize R2.getD q 0 = y at *
    have ht1 : (8 * (q : Int)).tdiv 8 = (q : Int) := by rw [Int.tdiv_eq_ediv_of_nonneg (by omega)]; omega
    have ht2 : (8 * (q : Int)).tmod 8 = 0 := by rw [Int.tmod_eq_emod_of_nonneg (by omega)]; omega
    have hw1 : IntKind.i64.wrap (q : Int) = (q : Int) := IntWalk.i64_in _ (by omega)
    have hw2 : IntKind.i64.wrap (8 * (q : Int)) = 8 * (q : Int) := IntWalk.i64_in _ (by omega)
    have lw0 : IntKind.i64.wrap 0 = 0 := rfl; have lw1 : IntKind.i64.wrap 1 = 1 := rfl; have lw2 : IntKind.i64.wrap 2 = 2 := rfl; have lw3 : IntKind.i64.wrap 3 = 3 := rfl; have lw4 : IntKind.i64.wrap 4 = 4 := rfl; have lw5 : IntKind.i64.wrap 5 = 5 := rfl; have lw6 : IntKind.i64.wrap 6 = 6 := rfl; have lw7 : IntKind.i64.wrap 7 = 7 := rfl; have lw8 : IntKind.i64.wrap 8 = 8 := rfl
    have lx2 : IntKind.i64.wrap ((x : Int) * 2) = (x : Int) * 2 := IntWalk.i64_in _ (by omega); have lx4 : IntKind.i64.wrap ((x : Int) * 4) = (x : Int) * 4 := IntWalk.i64_in _ (by omega); have lx8 : IntKind.i64.wrap ((x : Int) * 8) = (x : Int) * 8 := IntWalk.i64_in _ (by omega); have lx16 : IntKind.i64.wrap ((x : Int) * 16) = (x : Int) * 16 := IntWalk.i64_in _ (by omega); have lx32 : IntKind.i64.wrap ((x : Int) * 32) = (x : Int) * 32 := IntWalk.i64_in _ (by omega); have lx64 : IntKind.i64.wrap ((x : Int) * 64) = (x : Int) * 64 := IntWalk.i64_in _ (by omega); have lx128 : IntKind.i64.wrap ((x : Int) * 128) = (x : Int) * 128 := IntWalk.i64_in _ (by omega)
    have lx1 : IntKind.i64.wrap (x : Int) = (x : Int) := IntWalk.i64_in _ (by omega)
    have i0 : (0 : Int) ≤ (q : Int) := by omega
    have i1 : (q : Int) < (q : Int) + 1 := by omega
    have hfin := wr_fin2 (bs' := bs ++ [b]) (y := y ||| UInt8.ofNat (x * 2 ^ 0)) hlo HGF.out HFL.out OW.out gW D0.out ⟨_, D1.out⟩ DF.out (by rw [HLB.out]) (by omega) HR2.out
    have HFIN := Lib.hid hfin
    have d0 := D0.out; have d1 := D1.out
    clear hfin HR2
    go_still_tail 20, (by kernel_rfl)
    change wpList _ _ _ _ _ w2.drew
    clear ht1 ht2 lw0 lw1 lw2 lw3 lw4 lw5 lw6 lw7 lw8 lx2 lx4 lx8 lx16 lx32 lx64 lx128 hw2 lx1
    go_wp2
    go_end0
    have e2 : 8 * (q : Int) + 1 = ((8 * q + 0 + 1 : Nat) : Int) := by omega
    rw [e2, put_u8n0 y x (by omega)]
    exact ⟨rfl, HFIN.out.1, MALL.out.trans HFIN.out.2⟩
  · subst hqr
    have hsz : (8 * q + 1 + 7) / 8 = q + 1 := by omega
    have own1 : w.ownsRow base 5 1 v (q + 1) (bytesV (packL bs)) := by have := OWN.out; rwa [hsz] at this
    have hfm := World.ownsRow.form own1 (Nat.succ_pos q)
    obtain ⟨g, c, hvv, hgb, hgl⟩ := hfm
    subst hvv
    have gW : g ≠ W := by intro e; subst e; exact hv rfl
    have hr2 : packL (bs ++ [b]) = (packL bs).set q ((packL bs).getD q 0 ||| UInt8.ofNat (x * 2 ^ 1)) := by
      have h := HPK.out
      rw [h, putOne]
      simp only [hx0, show (8 * q + 1) % 8 = 1 by omega, show (8 * q + 1) / 8 = q by omega]
      rw [if_neg (by decide)]
    have HR2 := Lib.hid hr2
    have hmul : IntKind.i64.wrap (8 * (q : Int) + 1) = 8 * (q : Int) + 1 := IntWalk.i64_in _ (by omega)
    have OW := Lib.hid own1; have HGF := Lib.hid (HVF.out g rfl); have HFL := HNF; have MALL : Hid (Mod (Off base F) w w) := Lib.hid (Mod.refl _ w); have D0 := Lib.hid c0
    have k1 : w.cell? ⟨W, 1, none⟩ = some (.int .i64 (8 * (q : Int) + 1)) := c1.trans (by simp)
    have D1 := Lib.hid k1; have DF := HFZ
    clear own1 hr2 hsz OWN c1 c0 k1
    generalize packL bs = R2 at *
    have d0 := D0.out; have d1 := D1.out
    go_enter Tryz.func68, Tryz.ntmps68
    go_upto_region 2 with fail
    clear d0 d1 hmul
    have hyq := own_byte OW.out q (by omega)
    have hfq := World.ownsRow.frozenAt OW.out q
    clear HPK
    generalize R2.getD q 0 = y at *
    have ht1 : (8 * (q : Int) + 1).tdiv 8 = (q : Int) := by rw [Int.tdiv_eq_ediv_of_nonneg (by omega)]; omega
    have ht2 : (8 * (q : Int) + 1).tmod 8 = 1 := by rw [Int.tmod_eq_emod_of_nonneg (by omega)]; omega
    have hw1 : IntKind.i64.wrap (q : Int) = (q : Int) := IntWalk.i64_in _ (by omega)
    have hw2 : IntKind.i64.wrap (8 * (q : Int) + 1) = 8 * (q : Int) + 1 := IntWalk.i64_in _ (by omega)
    have lw0 : IntKind.i64.wrap 0 = 0 := rfl; have lw1 : IntKind.i64.wrap 1 = 1 := rfl; have lw2 : IntKind.i64.wrap 2 = 2 := rfl; have lw3 : IntKind.i64.wrap 3 = 3 := rfl; have lw4 : IntKind.i64.wrap 4 = 4 := rfl; have lw5 : IntKind.i64.wrap 5 = 5 := rfl; have lw6 : IntKind.i64.wrap 6 = 6 := rfl; have lw7 : IntKind.i64.wrap 7 = 7 := rfl; have lw8 : IntKind.i64.wrap 8 = 8 := rfl
    have lx2 : IntKind.i64.wrap ((x : Int) * 2) = (x : Int) * 2 := IntWalk.i64_in _ (by omega); have lx4 : IntKind.i64.wrap ((x : Int) * 4) = (x : Int) * 4 := IntWalk.i64_in _ (by omega); have lx8 : IntKind.i64.wrap ((x : Int) * 8) = (x : Int) * 8 := IntWalk.i64_in _ (by omega); have lx16 : IntKind.i64.wrap ((x : Int) * 16) = (x : Int) * 16 := IntWalk.i64_in _ (by omega); have lx32 : IntKind.i64.wrap ((x : Int) * 32) = (x : Int) * 32 := IntWalk.i64_in _ (by omega); have lx64 : IntKind.i64.wrap ((x : Int) * 64) = (x : Int) * 64 := IntWalk.i64_in _ (by omega); have lx128 : IntKind.i64.wrap ((x : Int) * 128) = (x : Int) * 128 := IntWalk.i64_in _ (by omega)
    have lx1 : IntKind.i64.wrap (x : Int) = (x : Int) := IntWalk.i64_in _ (by omega)
    have i0 : (0 : Int) ≤ (q : Int) := by omega
    have i1 : (q : Int) < (q : Int) + 1 := by omega
    have hfin := wr_fin2 (bs' := bs ++ [b]) (y := y ||| UInt8.ofNat (x * 2 ^ 1)) hlo HGF.out HFL.out OW.out gW D0.out ⟨_, D1.out⟩ DF.out (by rw [HLB.out]) (by omega) HR2.out
    have HFIN := Lib.hid hfin
    have d0 := D0.out; have d1 := D1.out
    clear hfin HR2
    go_still_tail 20, (by kernel_rfl)
    change wpList _ _ _ _ _ w.drew
    clear ht1 ht2 lw0 lw1 lw2 lw3 lw4 lw5 lw6 lw7 lw8 lx2 lx4 lx8 lx16 lx32 lx64 lx128 hw2 lx1
    go_wp2
    go_end0
    have e2 : 8 * (q : Int) + 1 + 1 = ((8 * q + 1 + 1 : Nat) : Int) := by omega
    rw [e2, put_u8n y x 1 2 rfl (by omega)]
    exact ⟨rfl, HFIN.out.1, MALL.out.trans HFIN.out.2⟩
  · subst hqr
    have hsz : (8 * q + 2 + 7) / 8 = q + 1 := by omega
    have own1 : w.ownsRow base 5 1 v (q + 1) (bytesV (packL bs)) := by have := OWN.out; rwa [hsz] at this
    have hfm := World.ownsRow.form own1 (Nat.succ_pos q)
    obtain ⟨g, c, hvv, hgb, hgl⟩ := hfm
    subst hvv
    have gW : g ≠ W := by intro e; subst e; exact hv rfl
    have hr2 : packL (bs ++ [b]) = (packL bs).set q ((packL bs).getD q 0 ||| UInt8.ofNat (x * 2 ^ 2)) := by
      have h := HPK.out
      rw [h, putOne]
      simp only [hx0, show (8 * q + 2) % 8 = 2 by omega, show (8 * q + 2) / 8 = q by omega]
      rw [if_neg (by decide)]
    have HR2 := Lib.hid hr2
    have hmul : IntKind.i64.wrap (8 * (q : Int) + 2) = 8 * (q : Int) + 2 := IntWalk.i64_in _ (by omega)
    have OW := Lib.hid own1; have HGF := Lib.hid (HVF.out g rfl); have HFL := HNF; have MALL : Hid (Mod (Off base F) w w) := Lib.hid (Mod.refl _ w); have D0 := Lib.hid c0
    have k1 : w.cell? ⟨W, 1, none⟩ = some (.int .i64 (8 * (q : Int) + 2)) := c1.trans (by simp)
    have D1 := Lib.hid k1; have DF := HFZ
    clear own1 hr2 hsz OWN c1 c0 k1
    generalize packL bs = R2 at *
    have d0 := D0.out; have d1 := D1.out
    go_enter Tryz.func68, Tryz.ntmps68
    go_upto_region 2 with fail
    clear d0 d1 hmul
    have hyq := own_byte OW.out q (by omega)
    have hfq := World.ownsRow.frozenAt OW.out q
    clear HPK
    generalize R2.getD q 0 = y at *
    have ht1 : (8 * (q : Int) + 2).tdiv 8 = (q : Int) := by rw [Int.tdiv_eq_ediv_of_nonneg (by omega)]; omega
    have ht2 : (8 * (q : Int) + 2).tmod 8 = 2 := by rw [Int.tmod_eq_emod_of_nonneg (by omega)]; omega
    have hw1 : IntKind.i64.wrap (q : Int) = (q : Int) := IntWalk.i64_in _ (by omega)
    have hw2 : IntKind.i64.wrap (8 * (q : Int) + 2) = 8 * (q : Int) + 2 := IntWalk.i64_in _ (by omega)
    have lw0 : IntKind.i64.wrap 0 = 0 := rfl; have lw1 : IntKind.i64.wrap 1 = 1 := rfl; have lw2 : IntKind.i64.wrap 2 = 2 := rfl; have lw3 : IntKind.i64.wrap 3 = 3 := rfl; have lw4 : IntKind.i64.wrap 4 = 4 := rfl; have lw5 : IntKind.i64.wrap 5 = 5 := rfl; have lw6 : IntKind.i64.wrap 6 = 6 := rfl; have lw7 : IntKind.i64.wrap 7 = 7 := rfl; have lw8 : IntKind.i64.wrap 8 = 8 := rfl
    have lx2 : IntKind.i64.wrap ((x : Int) * 2) = (x : Int) * 2 := IntWalk.i64_in _ (by omega); have lx4 : IntKind.i64.wrap ((x : Int) * 4) = (x : Int) * 4 := IntWalk.i64_in _ (by omega); have lx8 : IntKind.i64.wrap ((x : Int) * 8) = (x : Int) * 8 := IntWalk.i64_in _ (by omega); have lx16 : IntKind.i64.wrap ((x : Int) * 16) = (x : Int) * 16 := IntWalk.i64_in _ (by omega); have lx32 : IntKind.i64.wrap ((x : Int) * 32) = (x : Int) * 32 := IntWalk.i64_in _ (by omega); have lx64 : IntKind.i64.wrap ((x : Int) * 64) = (x : Int) * 64 := IntWalk.i64_in _ (by omega); have lx128 : IntKind.i64.wrap ((x : Int) * 128) = (x : Int) * 128 := IntWalk.i64_in _ (by omega)
    have lx1 : IntKind.i64.wrap (x : Int) = (x : Int) := IntWalk.i64_in _ (by omega)
    have i0 : (0 : Int) ≤ (q : Int) := by omega
    have i1 : (q : Int) < (q : Int) + 1 := by omega
    have hfin := wr_fin2 (bs' := bs ++ [b]) (y := y ||| UInt8.ofNat (x * 2 ^ 2)) hlo HGF.out HFL.out OW.out gW D0.out ⟨_, D1.out⟩ DF.out (by rw [HLB.out]) (by omega) HR2.out
    have HFIN := Lib.hid hfin
    have d0 := D0.out; have d1 := D1.out
    clear hfin HR2
    go_still_tail 20, (by kernel_rfl)
    change wpList _ _ _ _ _ w.drew
    clear ht1 ht2 lw0 lw1 lw2 lw3 lw4 lw5 lw6 lw7 lw8 lx2 lx4 lx8 lx16 lx32 lx64 lx128 hw2 lx1
    go_wp2
    go_end0
    have e2 : 8 * (q : Int) + 2 + 1 = ((8 * q + 2 + 1 : Nat) : Int) := by omega
    rw [e2, put_u8n y x 2 4 rfl (by omega)]
    exact ⟨rfl, HFIN.out.1, MALL.out.trans HFIN.out.2⟩
  · subst hqr
    have hsz : (8 * q + 3 + 7) / 8 = q + 1 := by omega
    have own1 : w.ownsRow base 5 1 v (q + 1) (bytesV (packL bs)) := by have := OWN.out; rwa [hsz] at this
    have hfm := World.ownsRow.form own1 (Nat.succ_pos q)
    obtain ⟨g, c, hvv, hgb, hgl⟩ := hfm
    subst hvv
    have gW : g ≠ W := by intro e; subst e; exact hv rfl
    have hr2 : packL (bs ++ [b]) = (packL bs).set q ((packL bs).getD q 0 ||| UInt8.ofNat (x * 2 ^ 3)) := by
      have h := HPK.out
      rw [h, putOne]
      simp only [hx0, show (8 * q + 3) % 8 = 3 by omega, show (8 * q + 3) / 8 = q by omega]
      rw [if_neg (by decide)]
    have HR2 := Lib.hid hr2
    have hmul : IntKind.i64.wrap (8 * (q : Int) + 3) = 8 * (q : Int) + 3 := IntWalk.i64_in _ (by omega)
    have OW := Lib.hid own1; have HGF := Lib.hid (HVF.out g rfl); have HFL := HNF; have MALL : Hid (Mod (Off base F) w w) := Lib.hid (Mod.refl _ w); have D0 := Lib.hid c0
    have k1 : w.cell? ⟨W, 1, none⟩ = some (.int .i64 (8 * (q : Int) + 3)) := c1.trans (by simp)
    have D1 := Lib.hid k1; have DF := HFZ
    clear own1 hr2 hsz OWN c1 c0 k1
    generalize packL bs = R2 at *
    have d0 := D0.out; have d1 := D1.out
    go_enter Tryz.func68, Tryz.ntmps68
    go_upto_region 2 with fail
    clear d0 d1 hmul
    have hyq := own_byte OW.out q (by omega)
    have hfq := World.ownsRow.frozenAt OW.out q
    clear HPK
    generalize R2.getD q 0 = y at *
    have ht1 : (8 * (q : Int) + 3).tdiv 8 = (q : Int) := by rw [Int.tdiv_eq_ediv_of_nonneg (by omega)]; omega
    have ht2 : (8 * (q : Int) + 3).tmod 8 = 3 := by rw [Int.tmod_eq_emod_of_nonneg (by omega)]; omega
    have hw1 : IntKind.i64.wrap (q : Int) = (q : Int) := IntWalk.i64_in _ (by omega)
    have hw2 : IntKind.i64.wrap (8 * (q : Int) + 3) = 8 * (q : Int) + 3 := IntWalk.i64_in _ (by omega)
    have lw0 : IntKind.i64.wrap 0 = 0 := rfl; have lw1 : IntKind.i64.wrap 1 = 1 := rfl; have lw2 : IntKind.i64.wrap 2 = 2 := rfl; have lw3 : IntKind.i64.wrap 3 = 3 := rfl; have lw4 : IntKind.i64.wrap 4 = 4 := rfl; have lw5 : IntKind.i64.wrap 5 = 5 := rfl; have lw6 : IntKind.i64.wrap 6 = 6 := rfl; have lw7 : IntKind.i64.wrap 7 = 7 := rfl; have lw8 : IntKind.i64.wrap 8 = 8 := rfl
    have lx2 : IntKind.i64.wrap ((x : Int) * 2) = (x : Int) * 2 := IntWalk.i64_in _ (by omega); have lx4 : IntKind.i64.wrap ((x : Int) * 4) = (x : Int) * 4 := IntWalk.i64_in _ (by omega); have lx8 : IntKind.i64.wrap ((x : Int) * 8) = (x : Int) * 8 := IntWalk.i64_in _ (by omega); have lx16 : IntKind.i64.wrap ((x : Int) * 16) = (x : Int) * 16 := IntWalk.i64_in _ (by omega); have lx32 : IntKind.i64.wrap ((x : Int) * 32) = (x : Int) * 32 := IntWalk.i64_in _ (by omega); have lx64 : IntKind.i64.wrap ((x : Int) * 64) = (x : Int) * 64 := IntWalk.i64_in _ (by omega); have lx128 : IntKind.i64.wrap ((x : Int) * 128) = (x : Int) * 128 := IntWalk.i64_in _ (by omega)
    have lx1 : IntKind.i64.wrap (x : Int) = (x : Int) := IntWalk.i64_in _ (by omega)
    have i0 : (0 : Int) ≤ (q : Int) := by omega
    have i1 : (q : Int) < (q : Int) + 1 := by omega
    have hfin := wr_fin2 (bs' := bs ++ [b]) (y := y ||| UInt8.ofNat (x * 2 ^ 3)) hlo HGF.out HFL.out OW.out gW D0.out ⟨_, D1.out⟩ DF.out (by rw [HLB.out]) (by omega) HR2.out
    have HFIN := Lib.hid hfin
    have d0 := D0.out; have d1 := D1.out
    clear hfin HR2
    go_still_tail 20, (by kernel_rfl)
    change wpList _ _ _ _ _ w.drew
    clear ht1 ht2 lw0 lw1 lw2 lw3 lw4 lw5 lw6 lw7 lw8 lx2 lx4 lx8 lx16 lx32 lx64 lx128 hw2 lx1
    go_wp2
    go_end0
    have e2 : 8 * (q : Int) + 3 + 1 = ((8 * q + 3 + 1 : Nat) : Int) := by omega
    rw [e2, put_u8n y x 3 8 rfl (by omega)]
    exact ⟨rfl, HFIN.out.1, MALL.out.trans HFIN.out.2⟩
  · subst hqr
    have hsz : (8 * q + 4 + 7) / 8 = q + 1 := by omega
    have own1 : w.ownsRow base 5 1 v (q + 1) (bytesV (packL bs)) := by have := OWN.out; rwa [hsz] at this
    have hfm := World.ownsRow.form own1 (Nat.succ_pos q)
    obtain ⟨g, c, hvv, hgb, hgl⟩ := hfm
    subst hvv
    have gW : g ≠ W := by intro e; subst e; exact hv rfl
    have hr2 : packL (bs ++ [b]) = (packL bs).set q ((packL bs).getD q 0 ||| UInt8.ofNat (x * 2 ^ 4)) := by
      have h := HPK.out
      rw [h, putOne]
      simp only [hx0, show (8 * q + 4) % 8 = 4 by omega, show (8 * q + 4) / 8 = q by omega]
      rw [if_neg (by decide)]
    have HR2 := Lib.hid hr2
    have hmul : IntKind.i64.wrap (8 * (q : Int) + 4) = 8 * (q : Int) + 4 := IntWalk.i64_in _ (by omega)
    have OW := Lib.hid own1; have HGF := Lib.hid (HVF.out g rfl); have HFL := HNF; have MALL : Hid (Mod (Off base F) w w) := Lib.hid (Mod.refl _ w); have D0 := Lib.hid c0
    have k1 : w.cell? ⟨W, 1, none⟩ = some (.int .i64 (8 * (q : Int) + 4)) := c1.trans (by simp)
    have D1 := Lib.hid k1; have DF := HFZ
    clear own1 hr2 hsz OWN c1 c0 k1
    generalize packL bs = R2 at *
    have d0 := D0.out; have d1 := D1.out
    go_enter Tryz.func68, Tryz.ntmps68
    go_upto_region 2 with fail
    clear d0 d1 hmul
    have hyq := own_byte OW.out q (by omega)
    have hfq := World.ownsRow.frozenAt OW.out q
    clear HPK
    generalize R2.getD q 0 = y at *
    have ht1 : (8 * (q : Int) + 4).tdiv 8 = (q : Int) := by rw [Int.tdiv_eq_ediv_of_nonneg (by omega)]; omega
    have ht2 : (8 * (q : Int) + 4).tmod 8 = 4 := by rw [Int.tmod_eq_emod_of_nonneg (by omega)]; omega
    have hw1 : IntKind.i64.wrap (q : Int) = (q : Int) := IntWalk.i64_in _ (by omega)
    have hw2 : IntKind.i64.wrap (8 * (q : Int) + 4) = 8 * (q : Int) + 4 := IntWalk.i64_in _ (by omega)
    have lw0 : IntKind.i64.wrap 0 = 0 := rfl; have lw1 : IntKind.i64.wrap 1 = 1 := rfl; have lw2 : IntKind.i64.wrap 2 = 2 := rfl; have lw3 : IntKind.i64.wrap 3 = 3 := rfl; have lw4 : IntKind.i64.wrap 4 = 4 := rfl; have lw5 : IntKind.i64.wrap 5 = 5 := rfl; have lw6 : IntKind.i64.wrap 6 = 6 := rfl; have lw7 : IntKind.i64.wrap 7 = 7 := rfl; have lw8 : IntKind.i64.wrap 8 = 8 := rfl
    have lx2 : IntKind.i64.wrap ((x : Int) * 2) = (x : Int) * 2 := IntWalk.i64_in _ (by omega); have lx4 : IntKind.i64.wrap ((x : Int) * 4) = (x : Int) * 4 := IntWalk.i64_in _ (by omega); have lx8 : IntKind.i64.wrap ((x : Int) * 8) = (x : Int) * 8 := IntWalk.i64_in _ (by omega); have lx16 : IntKind.i64.wrap ((x : Int) * 16) = (x : Int) * 16 := IntWalk.i64_in _ (by omega); have lx32 : IntKind.i64.wrap ((x : Int) * 32) = (x : Int) * 32 := IntWalk.i64_in _ (by omega); have lx64 : IntKind.i64.wrap ((x : Int) * 64) = (x : Int) * 64 := IntWalk.i64_in _ (by omega); have lx128 : IntKind.i64.wrap ((x : Int) * 128) = (x : Int) * 128 := IntWalk.i64_in _ (by omega)
    have lx1 : IntKind.i64.wrap (x : Int) = (x : Int) := IntWalk.i64_in _ (by omega)
    have i0 : (0 : Int) ≤ (q : Int) := by omega
    have i1 : (q : Int) < (q : Int) + 1 := by omega
    have hfin := wr_fin2 (bs' := bs ++ [b]) (y := y ||| UInt8.ofNat (x * 2 ^ 4)) hlo HGF.out HFL.out OW.out gW D0.out ⟨_, D1.out⟩ DF.out (by rw [HLB.out]) (by omega) HR2.out
    have HFIN := Lib.hid hfin
    have d0 := D0.out; have d1 := D1.out
    clear hfin HR2
    go_still_tail 20, (by kernel_rfl)
    change wpList _ _ _ _ _ w.drew
    clear ht1 ht2 lw0 lw1 lw2 lw3 lw4 lw5 lw6 lw7 lw8 lx2 lx4 lx8 lx16 lx32 lx64 lx128 hw2 lx1
    go_wp2
    go_end0
    have e2 : 8 * (q : Int) + 4 + 1 = ((8 * q + 4 + 1 : Nat) : Int) := by omega
    rw [e2, put_u8n y x 4 16 rfl (by omega)]
    exact ⟨rfl, HFIN.out.1, MALL.out.trans HFIN.out.2⟩
  · subst hqr
    have hsz : (8 * q + 5 + 7) / 8 = q + 1 := by omega
    have own1 : w.ownsRow base 5 1 v (q + 1) (bytesV (packL bs)) := by have := OWN.out; rwa [hsz] at this
    have hfm := World.ownsRow.form own1 (Nat.succ_pos q)
    obtain ⟨g, c, hvv, hgb, hgl⟩ := hfm
    subst hvv
    have gW : g ≠ W := by intro e; subst e; exact hv rfl
    have hr2 : packL (bs ++ [b]) = (packL bs).set q ((packL bs).getD q 0 ||| UInt8.ofNat (x * 2 ^ 5)) := by
      have h := HPK.out
      rw [h, putOne]
      simp only [hx0, show (8 * q + 5) % 8 = 5 by omega, show (8 * q + 5) / 8 = q by omega]
      rw [if_neg (by decide)]
    have HR2 := Lib.hid hr2
    have hmul : IntKind.i64.wrap (8 * (q : Int) + 5) = 8 * (q : Int) + 5 := IntWalk.i64_in _ (by omega)
    have OW := Lib.hid own1; have HGF := Lib.hid (HVF.out g rfl); have HFL := HNF; have MALL : Hid (Mod (Off base F) w w) := Lib.hid (Mod.refl _ w); have D0 := Lib.hid c0
    have k1 : w.cell? ⟨W, 1, none⟩ = some (.int .i64 (8 * (q : Int) + 5)) := c1.trans (by simp)
    have D1 := Lib.hid k1; have DF := HFZ
    clear own1 hr2 hsz OWN c1 c0 k1
    generalize packL bs = R2 at *
    have d0 := D0.out; have d1 := D1.out
    go_enter Tryz.func68, Tryz.ntmps68
    go_upto_region 2 with fail
    clear d0 d1 hmul
    have hyq := own_byte OW.out q (by omega)
    have hfq := World.ownsRow.frozenAt OW.out q
    clear HPK
    generalize R2.getD q 0 = y at *
    have ht1 : (8 * (q : Int) + 5).tdiv 8 = (q : Int) := by rw [Int.tdiv_eq_ediv_of_nonneg (by omega)]; omega
    have ht2 : (8 * (q : Int) + 5).tmod 8 = 5 := by rw [Int.tmod_eq_emod_of_nonneg (by omega)]; omega
    have hw1 : IntKind.i64.wrap (q : Int) = (q : Int) := IntWalk.i64_in _ (by omega)
    have hw2 : IntKind.i64.wrap (8 * (q : Int) + 5) = 8 * (q : Int) + 5 := IntWalk.i64_in _ (by omega)
    have lw0 : IntKind.i64.wrap 0 = 0 := rfl; have lw1 : IntKind.i64.wrap 1 = 1 := rfl; have lw2 : IntKind.i64.wrap 2 = 2 := rfl; have lw3 : IntKind.i64.wrap 3 = 3 := rfl; have lw4 : IntKind.i64.wrap 4 = 4 := rfl; have lw5 : IntKind.i64.wrap 5 = 5 := rfl; have lw6 : IntKind.i64.wrap 6 = 6 := rfl; have lw7 : IntKind.i64.wrap 7 = 7 := rfl; have lw8 : IntKind.i64.wrap 8 = 8 := rfl
    have lx2 : IntKind.i64.wrap ((x : Int) * 2) = (x : Int) * 2 := IntWalk.i64_in _ (by omega); have lx4 : IntKind.i64.wrap ((x : Int) * 4) = (x : Int) * 4 := IntWalk.i64_in _ (by omega); have lx8 : IntKind.i64.wrap ((x : Int) * 8) = (x : Int) * 8 := IntWalk.i64_in _ (by omega); have lx16 : IntKind.i64.wrap ((x : Int) * 16) = (x : Int) * 16 := IntWalk.i64_in _ (by omega); have lx32 : IntKind.i64.wrap ((x : Int) * 32) = (x : Int) * 32 := IntWalk.i64_in _ (by omega); have lx64 : IntKind.i64.wrap ((x : Int) * 64) = (x : Int) * 64 := IntWalk.i64_in _ (by omega); have lx128 : IntKind.i64.wrap ((x : Int) * 128) = (x : Int) * 128 := IntWalk.i64_in _ (by omega)
    have lx1 : IntKind.i64.wrap (x : Int) = (x : Int) := IntWalk.i64_in _ (by omega)
    have i0 : (0 : Int) ≤ (q : Int) := by omega
    have i1 : (q : Int) < (q : Int) + 1 := by omega
    have hfin := wr_fin2 (bs' := bs ++ [b]) (y := y ||| UInt8.ofNat (x * 2 ^ 5)) hlo HGF.out HFL.out OW.out gW D0.out ⟨_, D1.out⟩ DF.out (by rw [HLB.out]) (by omega) HR2.out
    have HFIN := Lib.hid hfin
    have d0 := D0.out; have d1 := D1.out
    clear hfin HR2
    go_still_tail 20, (by kernel_rfl)
    change wpList _ _ _ _ _ w.drew
    clear ht1 ht2 lw0 lw1 lw2 lw3 lw4 lw5 lw6 lw7 lw8 lx2 lx4 lx8 lx16 lx32 lx64 lx128 hw2 lx1
    go_wp2
    go_end0
    have e2 : 8 * (q : Int) + 5 + 1 = ((8 * q + 5 + 1 : Nat) : Int) := by omega
    rw [e2, put_u8n y x 5 32 rfl (by omega)]
    exact ⟨rfl, HFIN.out.1, MALL.out.trans HFIN.out.2⟩
  · subst hqr
    have hsz : (8 * q + 6 + 7) / 8 = q + 1 := by omega
    have own1 : w.ownsRow base 5 1 v (q + 1) (bytesV (packL bs)) := by have := OWN.out; rwa [hsz] at this
    have hfm := World.ownsRow.form own1 (Nat.succ_pos q)
    obtain ⟨g, c, hvv, hgb, hgl⟩ := hfm
    subst hvv
    have gW : g ≠ W := by intro e; subst e; exact hv rfl
    have hr2 : packL (bs ++ [b]) = (packL bs).set q ((packL bs).getD q 0 ||| UInt8.ofNat (x * 2 ^ 6)) := by
      have h := HPK.out
      rw [h, putOne]
      simp only [hx0, show (8 * q + 6) % 8 = 6 by omega, show (8 * q + 6) / 8 = q by omega]
      rw [if_neg (by decide)]
    have HR2 := Lib.hid hr2
    have hmul : IntKind.i64.wrap (8 * (q : Int) + 6) = 8 * (q : Int) + 6 := IntWalk.i64_in _ (by omega)
    have OW := Lib.hid own1; have HGF := Lib.hid (HVF.out g rfl); have HFL := HNF; have MALL : Hid (Mod (Off base F) w w) := Lib.hid (Mod.refl _ w); have D0 := Lib.hid c0
    have k1 : w.cell? ⟨W, 1, none⟩ = some (.int .i64 (8 * (q : Int) + 6)) := c1.trans (by simp)
    have D1 := Lib.hid k1; have DF := HFZ
    clear own1 hr2 hsz OWN c1 c0 k1
    generalize packL bs = R2 at *
    have d0 := D0.out; have d1 := D1.out
    go_enter Tryz.func68, Tryz.ntmps68
    go_upto_region 2 with fail
    clear d0 d1 hmul
    have hyq := own_byte OW.out q (by omega)
    have hfq := World.ownsRow.frozenAt OW.out q
    clear HPK
    generalize R2.getD q 0 = y at *
    have ht1 : (8 * (q : Int) + 6).tdiv 8 = (q : Int) := by rw [Int.tdiv_eq_ediv_of_nonneg (by omega)]; omega
    have ht2 : (8 * (q : Int) + 6).tmod 8 = 6 := by rw [Int.tmod_eq_emod_of_nonneg (by omega)]; omega
    have hw1 : IntKind.i64.wrap (q : Int) = (q : Int) := IntWalk.i64_in _ (by omega)
    have hw2 : IntKind.i64.wrap (8 * (q : Int) + 6) = 8 * (q : Int) + 6 := IntWalk.i64_in _ (by omega)
    have lw0 : IntKind.i64.wrap 0 = 0 := rfl; have lw1 : IntKind.i64.wrap 1 = 1 := rfl; have lw2 : IntKind.i64.wrap 2 = 2 := rfl; have lw3 : IntKind.i64.wrap 3 = 3 := rfl; have lw4 : IntKind.i64.wrap 4 = 4 := rfl; have lw5 : IntKind.i64.wrap 5 = 5 := rfl; have lw6 : IntKind.i64.wrap 6 = 6 := rfl; have lw7 : IntKind.i64.wrap 7 = 7 := rfl; have lw8 : IntKind.i64.wrap 8 = 8 := rfl
    have lx2 : IntKind.i64.wrap ((x : Int) * 2) = (x : Int) * 2 := IntWalk.i64_in _ (by omega); have lx4 : IntKind.i64.wrap ((x : Int) * 4) = (x : Int) * 4 := IntWalk.i64_in _ (by omega); have lx8 : IntKind.i64.wrap ((x : Int) * 8) = (x : Int) * 8 := IntWalk.i64_in _ (by omega); have lx16 : IntKind.i64.wrap ((x : Int) * 16) = (x : Int) * 16 := IntWalk.i64_in _ (by omega); have lx32 : IntKind.i64.wrap ((x : Int) * 32) = (x : Int) * 32 := IntWalk.i64_in _ (by omega); have lx64 : IntKind.i64.wrap ((x : Int) * 64) = (x : Int) * 64 := IntWalk.i64_in _ (by omega); have lx128 : IntKind.i64.wrap ((x : Int) * 128) = (x : Int) * 128 := IntWalk.i64_in _ (by omega)
    have lx1 : IntKind.i64.wrap (x : Int) = (x : Int) := IntWalk.i64_in _ (by omega)
    have i0 : (0 : Int) ≤ (q : Int) := by omega
    have i1 : (q : Int) < (q : Int) + 1 := by omega
    have hfin := wr_fin2 (bs' := bs ++ [b]) (y := y ||| UInt8.ofNat (x * 2 ^ 6)) hlo HGF.out HFL.out OW.out gW D0.out ⟨_, D1.out⟩ DF.out (by rw [HLB.out]) (by omega) HR2.out
    have HFIN := Lib.hid hfin
    have d0 := D0.out; have d1 := D1.out
    clear hfin HR2
    go_still_tail 20, (by kernel_rfl)
    change wpList _ _ _ _ _ w.drew
    clear ht1 ht2 lw0 lw1 lw2 lw3 lw4 lw5 lw6 lw7 lw8 lx2 lx4 lx8 lx16 lx32 lx64 lx128 hw2 lx1
    go_wp2
    go_end0
    have e2 : 8 * (q : Int) + 6 + 1 = ((8 * q + 6 + 1 : Nat) : Int) := by omega
    rw [e2, put_u8n y x 6 64 rfl (by omega)]
    exact ⟨rfl, HFIN.out.1, MALL.out.trans HFIN.out.2⟩
  · subst hqr
    have hsz : (8 * q + 7 + 7) / 8 = q + 1 := by omega
    have own1 : w.ownsRow base 5 1 v (q + 1) (bytesV (packL bs)) := by have := OWN.out; rwa [hsz] at this
    have hfm := World.ownsRow.form own1 (Nat.succ_pos q)
    obtain ⟨g, c, hvv, hgb, hgl⟩ := hfm
    subst hvv
    have gW : g ≠ W := by intro e; subst e; exact hv rfl
    have hr2 : packL (bs ++ [b]) = (packL bs).set q ((packL bs).getD q 0 ||| UInt8.ofNat (x * 2 ^ 7)) := by
      have h := HPK.out
      rw [h, putOne]
      simp only [hx0, show (8 * q + 7) % 8 = 7 by omega, show (8 * q + 7) / 8 = q by omega]
      rw [if_neg (by decide)]
    have HR2 := Lib.hid hr2
    have hmul : IntKind.i64.wrap (8 * (q : Int) + 7) = 8 * (q : Int) + 7 := IntWalk.i64_in _ (by omega)
    have OW := Lib.hid own1; have HGF := Lib.hid (HVF.out g rfl); have HFL := HNF; have MALL : Hid (Mod (Off base F) w w) := Lib.hid (Mod.refl _ w); have D0 := Lib.hid c0
    have k1 : w.cell? ⟨W, 1, none⟩ = some (.int .i64 (8 * (q : Int) + 7)) := c1.trans (by simp)
    have D1 := Lib.hid k1; have DF := HFZ
    clear own1 hr2 hsz OWN c1 c0 k1
    generalize packL bs = R2 at *
    have d0 := D0.out; have d1 := D1.out
    go_enter Tryz.func68, Tryz.ntmps68
    go_upto_region 2 with fail
    clear d0 d1 hmul
    have hyq := own_byte OW.out q (by omega)
    have hfq := World.ownsRow.frozenAt OW.out q
    clear HPK
    generalize R2.getD q 0 = y at *
    have ht1 : (8 * (q : Int) + 7).tdiv 8 = (q : Int) := by rw [Int.tdiv_eq_ediv_of_nonneg (by omega)]; omega
    have ht2 : (8 * (q : Int) + 7).tmod 8 = 7 := by rw [Int.tmod_eq_emod_of_nonneg (by omega)]; omega
    have hw1 : IntKind.i64.wrap (q : Int) = (q : Int) := IntWalk.i64_in _ (by omega)
    have hw2 : IntKind.i64.wrap (8 * (q : Int) + 7) = 8 * (q : Int) + 7 := IntWalk.i64_in _ (by omega)
    have lw0 : IntKind.i64.wrap 0 = 0 := rfl; have lw1 : IntKind.i64.wrap 1 = 1 := rfl; have lw2 : IntKind.i64.wrap 2 = 2 := rfl; have lw3 : IntKind.i64.wrap 3 = 3 := rfl; have lw4 : IntKind.i64.wrap 4 = 4 := rfl; have lw5 : IntKind.i64.wrap 5 = 5 := rfl; have lw6 : IntKind.i64.wrap 6 = 6 := rfl; have lw7 : IntKind.i64.wrap 7 = 7 := rfl; have lw8 : IntKind.i64.wrap 8 = 8 := rfl
    have lx2 : IntKind.i64.wrap ((x : Int) * 2) = (x : Int) * 2 := IntWalk.i64_in _ (by omega); have lx4 : IntKind.i64.wrap ((x : Int) * 4) = (x : Int) * 4 := IntWalk.i64_in _ (by omega); have lx8 : IntKind.i64.wrap ((x : Int) * 8) = (x : Int) * 8 := IntWalk.i64_in _ (by omega); have lx16 : IntKind.i64.wrap ((x : Int) * 16) = (x : Int) * 16 := IntWalk.i64_in _ (by omega); have lx32 : IntKind.i64.wrap ((x : Int) * 32) = (x : Int) * 32 := IntWalk.i64_in _ (by omega); have lx64 : IntKind.i64.wrap ((x : Int) * 64) = (x : Int) * 64 := IntWalk.i64_in _ (by omega); have lx128 : IntKind.i64.wrap ((x : Int) * 128) = (x : Int) * 128 := IntWalk.i64_in _ (by omega)
    have lx1 : IntKind.i64.wrap (x : Int) = (x : Int) := IntWalk.i64_in _ (by omega)
    have i0 : (0 : Int) ≤ (q : Int) := by omega
    have i1 : (q : Int) < (q : Int) + 1 := by omega
    have hfin := wr_fin2 (bs' := bs ++ [b]) (y := y ||| UInt8.ofNat (x * 2 ^ 7)) hlo HGF.out HFL.out OW.out gW D0.out ⟨_, D1.out⟩ DF.out (by rw [HLB.out]) (by omega) HR2.out
    have HFIN := Lib.hid hfin
    have d0 := D0.out; have d1 := D1.out
    clear hfin HR2
    go_still_tail 20, (by kernel_rfl)
    change wpList _ _ _ _ _ w.drew
    clear ht1 ht2 lw0 lw1 lw2 lw3 lw4 lw5 lw6 lw7 lw8 lx2 lx4 lx8 lx16 lx32 lx64 lx128 hw2 lx1
    go_wp2
    go_end0
    have e2 : 8 * (q : Int) + 7 + 1 = ((8 * q + 7 + 1 : Nat) : Int) := by omega
    rw [e2, put_u8n y x 7 128 rfl (by omega)]
    exact ⟨rfl, HFIN.out.1, MALL.out.trans HFIN.out.2⟩
end Go.Proofs.YtnpkgmgedgcjmaaGreatDoor
