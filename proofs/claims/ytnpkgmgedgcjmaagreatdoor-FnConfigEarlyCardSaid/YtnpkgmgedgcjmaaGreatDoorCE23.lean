/- The reference's row: samples of less than 8 bits. No conditions but those in each theorem's own binders. -/
import Derived.Test.YtnpkgmgedgcjmaaGreatDoorCE22
import Derived.StillTailTactics
namespace Go.Proofs.YtnpkgmgedgcjmaaGreatDoor
set_option linter.unusedVariables false
set_option linter.unusedSimpArgs false
open Go.RowKit Go.Png

theorem or_u8 (x y : UInt8) : bits .or .u8 (x.toNat : Int) (y.toNat : Int) = (((x ||| y).toNat : Nat) : Int) := by
  rw [u8_or_nat _ _ x.toNat_lt y.toNat_lt, UInt8.toNat_or]

theorem put_u8 (y : UInt8) (x s : Nat) : bits .or .u8 (y.toNat : Int) (IntKind.u8.wrap ((x : Int) * 2 ^ s)) = (((y ||| UInt8.ofNat (x * 2 ^ s)).toNat : Nat) : Int) := by
  have e : IntKind.u8.wrap ((x : Int) * 2 ^ s) = (((UInt8.ofNat (x * 2 ^ s)).toNat : Nat) : Int) := by
    have h : ((x : Int) * 2 ^ s) = ((x * 2 ^ s : Nat) : Int) := by simp
    rw [h]
    have : IntKind.u8.wrap ((x * 2 ^ s : Nat) : Int) = ((x * 2 ^ s : Nat) : Int) % 256 := rfl
    rw [this, UInt8.toNat_ofNat']; omega
  rw [e, or_u8]

theorem put_u80 (y : UInt8) (x s : Nat) (hs : s = 0) : bits .or .u8 (y.toNat : Int) (IntKind.u8.wrap (x : Int)) = (((y ||| UInt8.ofNat (x * 2 ^ s)).toNat : Nat) : Int) := by
  subst hs
  have := put_u8 y x 0
  simpa using this

theorem bytesV_set (l : List UInt8) (i : Nat) (x : UInt8) : (bytesV l).set i (.int .u8 (x.toNat : Nat)) = bytesV (l.set i x) := by simp [bytesV, List.map_set]

theorem own_byte {w : World} {base g c n : Nat} {l : List UInt8} (h : w.ownsRow base 5 1 (.slice (some ⟨g, 0, none⟩) n c) n (bytesV l)) (i : Nat) (hi : i < n) : w.cell? ⟨g, i, none⟩ = some (.int .u8 ((l.getD i 0).toNat : Nat)) := by
  have hl : l.length = n := by have := h.1; simpa using this
  rw [World.ownsRow.cellAt h i (by omega), List.getElem?_eq_getElem (by rw [bytesV_length, hl]; exact hi), bytesV_get _ _ (by omega), List.getD_eq_getElem?_getD, List.getElem?_eq_getElem (by omega)]
  rfl


set_option maxRecDepth 100000 in
set_option maxHeartbeats 8000000 in
theorem specRowB1 (w : World) (a : Option Addr) (n c : Nat) (l : List Nat) (hl : l.length = n) (hs : SlI w a l) (hb : ∀ x ∈ l, x < 65536) (hn : n ≤ 1000000) :
    Calls Tryz.prog 76 #[.slice a n c, .int .i64 1] w fun e w' => ∃ g c, e = .returned (.slice (some ⟨g, 0, none⟩) ((n * 1 + 7) / 8) c) ∧ Own8 w' w.heap.size g c (rowL 1 l) ∧ Mod (fun _ => False) w w' := by
  have HS := Lib.hid hs; have HL := Lib.hid hl; have HB := Lib.hid hb
  have h0 := Own8.new w w.heap.size (Nat.le_refl _)
  have m0 : Mod (fun k => w.heap.size ≤ k) w (w.alloc (.cells #[] 5)) := (Mod.refl _ w).alloc _
  have H0 := Lib.hid h0; have M0 := Lib.hid m0
  clear hs hl hb h0 m0
  go_enter Tryz.func76, Tryz.ntmps76
  go_wp2
  go_loopg [5, 6, 7, 8, 12] (n - 0) (fun k v5 _ _ _ v12 wr => ∃ j m g c : Nat, j ≤ n ∧ k = n - j ∧ m = (j * 1 + 7) / 8 ∧ v12 = .int .i64 j ∧ v5 = .slice (some ⟨g, 0, none⟩) m c ∧ Own8 wr w.heap.size g c (rowP 1 l j) ∧ Mod (fun k => w.heap.size ≤ k) w wr)
  case atStart => exact ⟨0, 0, w.heap.size, 0, by omega, rfl, rfl, rfl, rfl, H0.out, M0.out⟩
  case round =>
    obtain ⟨j, m, g, c, hj, hkk, hm, rfl, rfl, own, mm⟩ := hrel
    have hlen : (rowP 1 l j).length = m := by rw [rowP_length 1 (by unfold DepOk; omega)]; exact hm.symm
    by_cases hlt : j < n
    · obtain ⟨b1, o1, rfl, -⟩ := HS.out.some j (by have := HL.out; omega)
      have s1 := HS.out.mod mm (fun k hk hs => by omega)
      obtain ⟨b1', o1', he1, hc1⟩ := s1.some j (by have := HL.out; omega)
      cases he1
      have hv := getD_le HB.out j (by decide)
      have hfs : rowP 1 l (j + 1) = putBit 1 (rowP 1 l j) j (l.getD j 0) := by rw [rowP, if_neg (by decide), if_neg (by decide)]
      have own' : wr.ownsRow w.heap.size 5 1 (.slice (some ⟨g, 0, none⟩) m c) m (bytesV (rowP 1 l j)) := by have h := own; unfold Own8 at h; rwa [hlen] at h
      have hg := own.base
      have HFS := Lib.hid hfs; have OWN := Lib.hid own'; have HM := Lib.hid mm; have HK := Lib.hid hkk; have HLEN := Lib.hid hlen; have HMM := Lib.hid hm
      clear hfs own own' mm hkk s1 hlen hm
      generalize l.getD j 0 = x at *
      obtain ⟨q, r, hqr, hr8⟩ : ∃ q r, j * 1 = 8 * q + r ∧ r < 8 := ⟨j * 1 / 8, j * 1 % 8, by omega, by omega⟩
      have hr9 : r = 0 ∨ r = 1 ∨ r = 2 ∨ r = 3 ∨ r = 4 ∨ r = 5 ∨ r = 6 ∨ r = 7 := by omega
      rcases hr9 with rfl | rfl | rfl | rfl | rfl | rfl | rfl | rfl
      all_goals first | (exfalso; omega) | skip
      all_goals
        have HQR := Lib.hid hqr
        have HHM := HMM.out
        have hx2 : x < 65536 := hv
      · have hmul : IntKind.i64.wrap (j : Int) = (j : Int) := IntWalk.i64_in _ (by omega)
        have hrem : (j : Int) % 8 = 0 := by omega
        have hm8 : m = q := by omega
        subst hm8
        have hmb : m ≤ 1000000 := by omega
        clear hqr HHM HMM
        go_wp2_with (at_builtin; go_must (refine wpList_app el8 rfl (.tmp 24) (.tmp 25) rfl w.heap.size (.slice (some ⟨g, 0, none⟩) m c) m (bytesV (rowP 1 l j)) rfl (World.ownsRow.alloc OWN.out _) ⟨wr.heap.size, 0, none⟩ 1 1 _ rfl rfl (news1 wr [_] _) (by simp [Value.oneCell']) (Or.inl (by simp)) (by omega) (by omega) (by have := HM.out.size; simp; omega) ?_; intro g2 c2 w2 hap))
        have hown := hap.out.own
        have hmod : Mod (fun k => w.heap.size ≤ k) w w2 := (HM.out.alloc _).trans (hap.out.mod.mono (fun k _ hk => by simp [Value.ownBlock] at hk; omega))
        have hr2 : (rowP 1 l j ++ [0]).length = m + 1 := by have := HLEN.out; simp; omega
        have hown2 : w2.ownsRow w.heap.size 5 1 (.slice (some ⟨g2, 0, none⟩) (m + 1) c2) (m + 1) (bytesV (rowP 1 l j ++ [0])) := by rw [bytesV_append]; exact hown
        have hput : rowP 1 l (j + 1) = (rowP 1 l j ++ [0]).set m ((rowP 1 l j ++ [0]).getD m 0 ||| UInt8.ofNat (x * 2 ^ (8 - 1 - 0))) := by
          have := HQR.out
          rw [HFS.out, putBit]
          simp only [show j * 1 % 8 = 0 by omega, show j * 1 / 8 = m by omega, reduceIte]
        have HPUT := Lib.hid hput; have HOWN := Lib.hid hown2; have HMOD := Lib.hid hmod; have HR2 := Lib.hid hr2
        clear hown hmod hown2 hput hap HM OWN HFS hmul hr2
        have hyq := own_byte HOWN.out m (by omega)
        have hfq := World.ownsRow.frozenAt HOWN.out m
        generalize rowP 1 l j ++ [0] = R2 at *
        generalize R2.getD m 0 = y at *
        have ht1 : (j : Int).tdiv 8 = (m : Int) := by rw [Int.tdiv_eq_ediv_of_nonneg (by omega)]; have := HQR.out; omega
        have ht2 : (j : Int).tmod 8 = 0 := by rw [Int.tmod_eq_emod_of_nonneg (by omega)]; have := HQR.out; omega
        have hw1 : IntKind.i64.wrap (m : Int) = (m : Int) := IntWalk.i64_in _ (by omega)
        have lw0 : IntKind.i64.wrap 0 = 0 := rfl; have lw1 : IntKind.i64.wrap 1 = 1 := rfl; have lw2 : IntKind.i64.wrap 2 = 2 := rfl; have lw3 : IntKind.i64.wrap 3 = 3 := rfl; have lw4 : IntKind.i64.wrap 4 = 4 := rfl; have lw5 : IntKind.i64.wrap 5 = 5 := rfl; have lw6 : IntKind.i64.wrap 6 = 6 := rfl; have lw7 : IntKind.i64.wrap 7 = 7 := rfl; have lw8 : IntKind.i64.wrap 8 = 8 := rfl
        have lx2 : IntKind.i64.wrap ((x : Int) * 2) = (x : Int) * 2 := IntWalk.i64_in _ (by omega); have lx4 : IntKind.i64.wrap ((x : Int) * 4) = (x : Int) * 4 := IntWalk.i64_in _ (by omega); have lx8 : IntKind.i64.wrap ((x : Int) * 8) = (x : Int) * 8 := IntWalk.i64_in _ (by omega); have lx16 : IntKind.i64.wrap ((x : Int) * 16) = (x : Int) * 16 := IntWalk.i64_in _ (by omega); have lx32 : IntKind.i64.wrap ((x : Int) * 32) = (x : Int) * 32 := IntWalk.i64_in _ (by omega); have lx64 : IntKind.i64.wrap ((x : Int) * 64) = (x : Int) * 64 := IntWalk.i64_in _ (by omega); have lx128 : IntKind.i64.wrap ((x : Int) * 128) = (x : Int) * 128 := IntWalk.i64_in _ (by omega)
        have i0 : (0 : Int) ≤ (m : Int) := by omega
        have i1 : (m : Int) < (m : Int) + 1 := by omega
        go_still_tail 14, (by kernel_rfl)
        change wpList _ _ _ _ _ w2.drew
        clear ht1 ht2 lw0 lw1 lw2 lw3 lw4 lw5 lw6 lw7 lw8 lx2 lx4 lx8 lx16 lx32 lx64 lx128
        have hst := World.ownsRow.stored HOWN.out m (.int .u8 (bits .or .u8 (y.toNat : Int) (IntKind.u8.wrap ((x : Int) * 2 ^ (8 - 1 - 0)))))
        have hst2 := hst.1
        have hmod2 : Mod (fun k => w.heap.size ≤ k) w (w2.drew.setCell ⟨g2, m, none⟩ (.int .u8 (bits .or .u8 (y.toNat : Int) (IntKind.u8.wrap ((x : Int) * 2 ^ (8 - 1 - 0)))))) := HMOD.out.drew.setCell (Or.inl (HOWN.out.lt g2 rfl).1) _
        rw [put_u8, bytesV_set, ← HPUT.out] at hst2
        rw [put_u8] at hmod2
        have hfin : Own8 (w2.setCell ⟨g2, m, none⟩ (.int .u8 (((y ||| UInt8.ofNat (x * 2 ^ (8 - 1 - 0))).toNat : Nat) : Int))) w.heap.size g2 c2 (rowP 1 l (j + 1)) := by
          unfold Own8
          rw [rowP_length 1 (by unfold DepOk; omega)]
          have e2 : ((j + 1) * 1 + 7) / 8 = m + 1 := by have := HQR.out; omega
          rw [e2]
          exact hst2
        have hpu : ((((y ||| UInt8.ofNat (x * 2 ^ (8 - 1 - 0))).toNat : Nat) : Int)) = bits .or .u8 (y.toNat : Int) (IntKind.u8.wrap ((x : Int) * 2 ^ (8 - 1 - 0))) := (put_u8 _ _ _).symm
        rw [hpu] at hfin hmod2
        have HFIN := Lib.hid hfin; have HMOD2 := Lib.hid hmod2
        have HM1 : Hid (m + 1 = ((j + 1) * 1 + 7) / 8) := Lib.hid (by have := HQR.out; omega)
        clear hst hst2 hmod2 hfin hpu HPUT HOWN HMOD
        go_wp2
        go_roundg (n - (j + 1))
        case measure => have := HK.out; omega
        case rel => exact ⟨j + 1, m + 1, g2, c2, by omega, rfl, HM1.out, by go_num, rfl, HFIN.out, HMOD2.out⟩
      · have hmul : IntKind.i64.wrap (j : Int) = (j : Int) := IntWalk.i64_in _ (by omega)
        have hrem : (j : Int) % 8 = 1 := by omega
        have hm8 : m = q + 1 := by omega
        subst hm8
        have hmb : q ≤ 1000000 := by omega
        clear hqr HHM HMM
        go_wp2
        have hput : rowP 1 l (j + 1) = (rowP 1 l j).set q ((rowP 1 l j).getD q 0 ||| UInt8.ofNat (x * 2 ^ (8 - 1 - 1))) := by
          have := HQR.out
          rw [HFS.out, putBit]
          rw [show j * 1 % 8 = 1 by omega, show j * 1 / 8 = q by omega, if_neg (by decide)]
        have HPUT := Lib.hid hput; have HOWN := OWN; have HMOD := HM
        clear hput HM OWN HFS hmul
        have hyq := own_byte HOWN.out q (by omega)
        have hfq := World.ownsRow.frozenAt HOWN.out q
        generalize rowP 1 l j = R2 at *
        generalize R2.getD q 0 = y at *
        have ht1 : (j : Int).tdiv 8 = (q : Int) := by rw [Int.tdiv_eq_ediv_of_nonneg (by omega)]; have := HQR.out; omega
        have ht2 : (j : Int).tmod 8 = 1 := by rw [Int.tmod_eq_emod_of_nonneg (by omega)]; have := HQR.out; omega
        have hw1 : IntKind.i64.wrap (q : Int) = (q : Int) := IntWalk.i64_in _ (by omega)
        have lw0 : IntKind.i64.wrap 0 = 0 := rfl; have lw1 : IntKind.i64.wrap 1 = 1 := rfl; have lw2 : IntKind.i64.wrap 2 = 2 := rfl; have lw3 : IntKind.i64.wrap 3 = 3 := rfl; have lw4 : IntKind.i64.wrap 4 = 4 := rfl; have lw5 : IntKind.i64.wrap 5 = 5 := rfl; have lw6 : IntKind.i64.wrap 6 = 6 := rfl; have lw7 : IntKind.i64.wrap 7 = 7 := rfl; have lw8 : IntKind.i64.wrap 8 = 8 := rfl
        have lx2 : IntKind.i64.wrap ((x : Int) * 2) = (x : Int) * 2 := IntWalk.i64_in _ (by omega); have lx4 : IntKind.i64.wrap ((x : Int) * 4) = (x : Int) * 4 := IntWalk.i64_in _ (by omega); have lx8 : IntKind.i64.wrap ((x : Int) * 8) = (x : Int) * 8 := IntWalk.i64_in _ (by omega); have lx16 : IntKind.i64.wrap ((x : Int) * 16) = (x : Int) * 16 := IntWalk.i64_in _ (by omega); have lx32 : IntKind.i64.wrap ((x : Int) * 32) = (x : Int) * 32 := IntWalk.i64_in _ (by omega); have lx64 : IntKind.i64.wrap ((x : Int) * 64) = (x : Int) * 64 := IntWalk.i64_in _ (by omega); have lx128 : IntKind.i64.wrap ((x : Int) * 128) = (x : Int) * 128 := IntWalk.i64_in _ (by omega)
        have i0 : (0 : Int) ≤ (q : Int) := by omega
        have i1 : (q : Int) < (q : Int) + 1 := by omega
        go_still_tail 14, (by kernel_rfl)
        change wpList _ _ _ _ _ wr.drew
        clear ht1 ht2 lw0 lw1 lw2 lw3 lw4 lw5 lw6 lw7 lw8 lx2 lx4 lx8 lx16 lx32 lx64 lx128
        have hst := World.ownsRow.stored HOWN.out q (.int .u8 (bits .or .u8 (y.toNat : Int) (IntKind.u8.wrap ((x : Int) * 2 ^ (8 - 1 - 1)))))
        have hst2 := hst.1
        have hmod2 : Mod (fun k => w.heap.size ≤ k) w (wr.drew.setCell ⟨g, q, none⟩ (.int .u8 (bits .or .u8 (y.toNat : Int) (IntKind.u8.wrap ((x : Int) * 2 ^ (8 - 1 - 1)))))) := HMOD.out.drew.setCell (Or.inl (HOWN.out.lt g rfl).1) _
        rw [put_u8, bytesV_set, ← HPUT.out] at hst2
        rw [put_u8] at hmod2
        have hfin : Own8 (wr.setCell ⟨g, q, none⟩ (.int .u8 (((y ||| UInt8.ofNat (x * 2 ^ (8 - 1 - 1))).toNat : Nat) : Int))) w.heap.size g c (rowP 1 l (j + 1)) := by
          unfold Own8
          rw [rowP_length 1 (by unfold DepOk; omega)]
          have e2 : ((j + 1) * 1 + 7) / 8 = q + 1 := by have := HQR.out; omega
          rw [e2]
          exact hst2
        have hpu : ((((y ||| UInt8.ofNat (x * 2 ^ (8 - 1 - 1))).toNat : Nat) : Int)) = bits .or .u8 (y.toNat : Int) (IntKind.u8.wrap ((x : Int) * 2 ^ (8 - 1 - 1))) := (put_u8 _ _ _).symm
        rw [hpu] at hfin hmod2
        have HFIN := Lib.hid hfin; have HMOD2 := Lib.hid hmod2
        have HM1 : Hid (q + 1 = ((j + 1) * 1 + 7) / 8) := Lib.hid (by have := HQR.out; omega)
        clear hst hst2 hmod2 hfin hpu HPUT HOWN HMOD
        go_wp2
        go_roundg (n - (j + 1))
        case measure => have := HK.out; omega
        case rel => exact ⟨j + 1, q + 1, g, c, by omega, rfl, HM1.out, by go_num, rfl, HFIN.out, HMOD2.out⟩
      · have hmul : IntKind.i64.wrap (j : Int) = (j : Int) := IntWalk.i64_in _ (by omega)
        have hrem : (j : Int) % 8 = 2 := by omega
        have hm8 : m = q + 1 := by omega
        subst hm8
        have hmb : q ≤ 1000000 := by omega
        clear hqr HHM HMM
        go_wp2
        have hput : rowP 1 l (j + 1) = (rowP 1 l j).set q ((rowP 1 l j).getD q 0 ||| UInt8.ofNat (x * 2 ^ (8 - 1 - 2))) := by
          have := HQR.out
          rw [HFS.out, putBit]
          rw [show j * 1 % 8 = 2 by omega, show j * 1 / 8 = q by omega, if_neg (by decide)]
        have HPUT := Lib.hid hput; have HOWN := OWN; have HMOD := HM
        clear hput HM OWN HFS hmul
        have hyq := own_byte HOWN.out q (by omega)
        have hfq := World.ownsRow.frozenAt HOWN.out q
        generalize rowP 1 l j = R2 at *
        generalize R2.getD q 0 = y at *
        have ht1 : (j : Int).tdiv 8 = (q : Int) := by rw [Int.tdiv_eq_ediv_of_nonneg (by omega)]; have := HQR.out; omega
        have ht2 : (j : Int).tmod 8 = 2 := by rw [Int.tmod_eq_emod_of_nonneg (by omega)]; have := HQR.out; omega
        have hw1 : IntKind.i64.wrap (q : Int) = (q : Int) := IntWalk.i64_in _ (by omega)
        have lw0 : IntKind.i64.wrap 0 = 0 := rfl; have lw1 : IntKind.i64.wrap 1 = 1 := rfl; have lw2 : IntKind.i64.wrap 2 = 2 := rfl; have lw3 : IntKind.i64.wrap 3 = 3 := rfl; have lw4 : IntKind.i64.wrap 4 = 4 := rfl; have lw5 : IntKind.i64.wrap 5 = 5 := rfl; have lw6 : IntKind.i64.wrap 6 = 6 := rfl; have lw7 : IntKind.i64.wrap 7 = 7 := rfl; have lw8 : IntKind.i64.wrap 8 = 8 := rfl
        have lx2 : IntKind.i64.wrap ((x : Int) * 2) = (x : Int) * 2 := IntWalk.i64_in _ (by omega); have lx4 : IntKind.i64.wrap ((x : Int) * 4) = (x : Int) * 4 := IntWalk.i64_in _ (by omega); have lx8 : IntKind.i64.wrap ((x : Int) * 8) = (x : Int) * 8 := IntWalk.i64_in _ (by omega); have lx16 : IntKind.i64.wrap ((x : Int) * 16) = (x : Int) * 16 := IntWalk.i64_in _ (by omega); have lx32 : IntKind.i64.wrap ((x : Int) * 32) = (x : Int) * 32 := IntWalk.i64_in _ (by omega); have lx64 : IntKind.i64.wrap ((x : Int) * 64) = (x : Int) * 64 := IntWalk.i64_in _ (by omega); have lx128 : IntKind.i64.wrap ((x : Int) * 128) = (x : Int) * 128 := IntWalk.i64_in _ (by omega)
        have i0 : (0 : Int) ≤ (q : Int) := by omega
        have i1 : (q : Int) < (q : Int) + 1 := by omega
        go_still_tail 14, (by kernel_rfl)
        change wpList _ _ _ _ _ wr.drew
        clear ht1 ht2 lw0 lw1 lw2 lw3 lw4 lw5 lw6 lw7 lw8 lx2 lx4 lx8 lx16 lx32 lx64 lx128
        have hst := World.ownsRow.stored HOWN.out q (.int .u8 (bits .or .u8 (y.toNat : Int) (IntKind.u8.wrap ((x : Int) * 2 ^ (8 - 1 - 2)))))
        have hst2 := hst.1
        have hmod2 : Mod (fun k => w.heap.size ≤ k) w (wr.drew.setCell ⟨g, q, none⟩ (.int .u8 (bits .or .u8 (y.toNat : Int) (IntKind.u8.wrap ((x : Int) * 2 ^ (8 - 1 - 2)))))) := HMOD.out.drew.setCell (Or.inl (HOWN.out.lt g rfl).1) _
        rw [put_u8, bytesV_set, ← HPUT.out] at hst2
        rw [put_u8] at hmod2
        have hfin : Own8 (wr.setCell ⟨g, q, none⟩ (.int .u8 (((y ||| UInt8.ofNat (x * 2 ^ (8 - 1 - 2))).toNat : Nat) : Int))) w.heap.size g c (rowP 1 l (j + 1)) := by
          unfold Own8
          rw [rowP_length 1 (by unfold DepOk; omega)]
          have e2 : ((j + 1) * 1 + 7) / 8 = q + 1 := by have := HQR.out; omega
          rw [e2]
          exact hst2
        have hpu : ((((y ||| UInt8.ofNat (x * 2 ^ (8 - 1 - 2))).toNat : Nat) : Int)) = bits .or .u8 (y.toNat : Int) (IntKind.u8.wrap ((x : Int) * 2 ^ (8 - 1 - 2))) := (put_u8 _ _ _).symm
        rw [hpu] at hfin hmod2
        have HFIN := Lib.hid hfin; have HMOD2 := Lib.hid hmod2
        have HM1 : Hid (q + 1 = ((j + 1) * 1 + 7) / 8) := Lib.hid (by have := HQR.out; omega)
        clear hst hst2 hmod2 hfin hpu HPUT HOWN HMOD
        go_wp2
        go_roundg (n - (j + 1))
        case measure => have := HK.out; omega
        case rel => exact ⟨j + 1, q + 1, g, c, by omega, rfl, HM1.out, by go_num, rfl, HFIN.out, HMOD2.out⟩
      · have hmul : IntKind.i64.wrap (j : Int) = (j : Int) := IntWalk.i64_in _ (by omega)
        have hrem : (j : Int) % 8 = 3 := by omega
        have hm8 : m = q + 1 := by omega
        subst hm8
        have hmb : q ≤ 1000000 := by omega
        clear hqr HHM HMM
        go_wp2
        have hput : rowP 1 l (j + 1) = (rowP 1 l j).set q ((rowP 1 l j).getD q 0 ||| UInt8.ofNat (x * 2 ^ (8 - 1 - 3))) := by
          have := HQR.out
          rw [HFS.out, putBit]
          rw [show j * 1 % 8 = 3 by omega, show j * 1 / 8 = q by omega, if_neg (by decide)]
        have HPUT := Lib.hid hput; have HOWN := OWN; have HMOD := HM
        clear hput HM OWN HFS hmul
        have hyq := own_byte HOWN.out q (by omega)
        have hfq := World.ownsRow.frozenAt HOWN.out q
        generalize rowP 1 l j = R2 at *
        generalize R2.getD q 0 = y at *
        have ht1 : (j : Int).tdiv 8 = (q : Int) := by rw [Int.tdiv_eq_ediv_of_nonneg (by omega)]; have := HQR.out; omega
        have ht2 : (j : Int).tmod 8 = 3 := by rw [Int.tmod_eq_emod_of_nonneg (by omega)]; have := HQR.out; omega
        have hw1 : IntKind.i64.wrap (q : Int) = (q : Int) := IntWalk.i64_in _ (by omega)
        have lw0 : IntKind.i64.wrap 0 = 0 := rfl; have lw1 : IntKind.i64.wrap 1 = 1 := rfl; have lw2 : IntKind.i64.wrap 2 = 2 := rfl; have lw3 : IntKind.i64.wrap 3 = 3 := rfl; have lw4 : IntKind.i64.wrap 4 = 4 := rfl; have lw5 : IntKind.i64.wrap 5 = 5 := rfl; have lw6 : IntKind.i64.wrap 6 = 6 := rfl; have lw7 : IntKind.i64.wrap 7 = 7 := rfl; have lw8 : IntKind.i64.wrap 8 = 8 := rfl
        have lx2 : IntKind.i64.wrap ((x : Int) * 2) = (x : Int) * 2 := IntWalk.i64_in _ (by omega); have lx4 : IntKind.i64.wrap ((x : Int) * 4) = (x : Int) * 4 := IntWalk.i64_in _ (by omega); have lx8 : IntKind.i64.wrap ((x : Int) * 8) = (x : Int) * 8 := IntWalk.i64_in _ (by omega); have lx16 : IntKind.i64.wrap ((x : Int) * 16) = (x : Int) * 16 := IntWalk.i64_in _ (by omega); have lx32 : IntKind.i64.wrap ((x : Int) * 32) = (x : Int) * 32 := IntWalk.i64_in _ (by omega); have lx64 : IntKind.i64.wrap ((x : Int) * 64) = (x : Int) * 64 := IntWalk.i64_in _ (by omega); have lx128 : IntKind.i64.wrap ((x : Int) * 128) = (x : Int) * 128 := IntWalk.i64_in _ (by omega)
        have i0 : (0 : Int) ≤ (q : Int) := by omega
        have i1 : (q : Int) < (q : Int) + 1 := by omega
        go_still_tail 14, (by kernel_rfl)
        change wpList _ _ _ _ _ wr.drew
        clear ht1 ht2 lw0 lw1 lw2 lw3 lw4 lw5 lw6 lw7 lw8 lx2 lx4 lx8 lx16 lx32 lx64 lx128
        have hst := World.ownsRow.stored HOWN.out q (.int .u8 (bits .or .u8 (y.toNat : Int) (IntKind.u8.wrap ((x : Int) * 2 ^ (8 - 1 - 3)))))
        have hst2 := hst.1
        have hmod2 : Mod (fun k => w.heap.size ≤ k) w (wr.drew.setCell ⟨g, q, none⟩ (.int .u8 (bits .or .u8 (y.toNat : Int) (IntKind.u8.wrap ((x : Int) * 2 ^ (8 - 1 - 3)))))) := HMOD.out.drew.setCell (Or.inl (HOWN.out.lt g rfl).1) _
        rw [put_u8, bytesV_set, ← HPUT.out] at hst2
        rw [put_u8] at hmod2
        have hfin : Own8 (wr.setCell ⟨g, q, none⟩ (.int .u8 (((y ||| UInt8.ofNat (x * 2 ^ (8 - 1 - 3))).toNat : Nat) : Int))) w.heap.size g c (rowP 1 l (j + 1)) := by
          unfold Own8
          rw [rowP_length 1 (by unfold DepOk; omega)]
          have e2 : ((j + 1) * 1 + 7) / 8 = q + 1 := by have := HQR.out; omega
          rw [e2]
          exact hst2
        have hpu : ((((y ||| UInt8.ofNat (x * 2 ^ (8 - 1 - 3))).toNat : Nat) : Int)) = bits .or .u8 (y.toNat : Int) (IntKind.u8.wrap ((x : Int) * 2 ^ (8 - 1 - 3))) := (put_u8 _ _ _).symm
        rw [hpu] at hfin hmod2
        have HFIN := Lib.hid hfin; have HMOD2 := Lib.hid hmod2
        have HM1 : Hid (q + 1 = ((j + 1) * 1 + 7) / 8) := Lib.hid (by have := HQR.out; omega)
        clear hst hst2 hmod2 hfin hpu HPUT HOWN HMOD
        go_wp2
        go_roundg (n - (j + 1))
        case measure => have := HK.out; omega
        case rel => exact ⟨j + 1, q + 1, g, c, by omega, rfl, HM1.out, by go_num, rfl, HFIN.out, HMOD2.out⟩
      · have hmul : IntKind.i64.wrap (j : Int) = (j : Int) := IntWalk.i64_in _ (by omega)
        have hrem : (j : Int) % 8 = 4 := by omega
        have hm8 : m = q + 1 := by omega
        subst hm8
        have hmb : q ≤ 1000000 := by omega
        clear hqr HHM HMM
        go_wp2
        have hput : rowP 1 l (j + 1) = (rowP 1 l j).set q ((rowP 1 l j).getD q 0 ||| UInt8.ofNat (x * 2 ^ (8 - 1 - 4))) := by
          have := HQR.out
          rw [HFS.out, putBit]
          rw [show j * 1 % 8 = 4 by omega, show j * 1 / 8 = q by omega, if_neg (by decide)]
        have HPUT := Lib.hid hput; have HOWN := OWN; have HMOD := HM
        clear hput HM OWN HFS hmul
        have hyq := own_byte HOWN.out q (by omega)
        have hfq := World.ownsRow.frozenAt HOWN.out q
        generalize rowP 1 l j = R2 at *
        generalize R2.getD q 0 = y at *
        have ht1 : (j : Int).tdiv 8 = (q : Int) := by rw [Int.tdiv_eq_ediv_of_nonneg (by omega)]; have := HQR.out; omega
        have ht2 : (j : Int).tmod 8 = 4 := by rw [Int.tmod_eq_emod_of_nonneg (by omega)]; have := HQR.out; omega
        have hw1 : IntKind.i64.wrap (q : Int) = (q : Int) := IntWalk.i64_in _ (by omega)
        have lw0 : IntKind.i64.wrap 0 = 0 := rfl; have lw1 : IntKind.i64.wrap 1 = 1 := rfl; have lw2 : IntKind.i64.wrap 2 = 2 := rfl; have lw3 : IntKind.i64.wrap 3 = 3 := rfl; have lw4 : IntKind.i64.wrap 4 = 4 := rfl; have lw5 : IntKind.i64.wrap 5 = 5 := rfl; have lw6 : IntKind.i64.wrap 6 = 6 := rfl; have lw7 : IntKind.i64.wrap 7 = 7 := rfl; have lw8 : IntKind.i64.wrap 8 = 8 := rfl
        have lx2 : IntKind.i64.wrap ((x : Int) * 2) = (x : Int) * 2 := IntWalk.i64_in _ (by omega); have lx4 : IntKind.i64.wrap ((x : Int) * 4) = (x : Int) * 4 := IntWalk.i64_in _ (by omega); have lx8 : IntKind.i64.wrap ((x : Int) * 8) = (x : Int) * 8 := IntWalk.i64_in _ (by omega); have lx16 : IntKind.i64.wrap ((x : Int) * 16) = (x : Int) * 16 := IntWalk.i64_in _ (by omega); have lx32 : IntKind.i64.wrap ((x : Int) * 32) = (x : Int) * 32 := IntWalk.i64_in _ (by omega); have lx64 : IntKind.i64.wrap ((x : Int) * 64) = (x : Int) * 64 := IntWalk.i64_in _ (by omega); have lx128 : IntKind.i64.wrap ((x : Int) * 128) = (x : Int) * 128 := IntWalk.i64_in _ (by omega)
        have i0 : (0 : Int) ≤ (q : Int) := by omega
        have i1 : (q : Int) < (q : Int) + 1 := by omega
        go_still_tail 14, (by kernel_rfl)
        change wpList _ _ _ _ _ wr.drew
        clear ht1 ht2 lw0 lw1 lw2 lw3 lw4 lw5 lw6 lw7 lw8 lx2 lx4 lx8 lx16 lx32 lx64 lx128
        have hst := World.ownsRow.stored HOWN.out q (.int .u8 (bits .or .u8 (y.toNat : Int) (IntKind.u8.wrap ((x : Int) * 2 ^ (8 - 1 - 4)))))
        have hst2 := hst.1
        have hmod2 : Mod (fun k => w.heap.size ≤ k) w (wr.drew.setCell ⟨g, q, none⟩ (.int .u8 (bits .or .u8 (y.toNat : Int) (IntKind.u8.wrap ((x : Int) * 2 ^ (8 - 1 - 4)))))) := HMOD.out.drew.setCell (Or.inl (HOWN.out.lt g rfl).1) _
        rw [put_u8, bytesV_set, ← HPUT.out] at hst2
        rw [put_u8] at hmod2
        have hfin : Own8 (wr.setCell ⟨g, q, none⟩ (.int .u8 (((y ||| UInt8.ofNat (x * 2 ^ (8 - 1 - 4))).toNat : Nat) : Int))) w.heap.size g c (rowP 1 l (j + 1)) := by
          unfold Own8
          rw [rowP_length 1 (by unfold DepOk; omega)]
          have e2 : ((j + 1) * 1 + 7) / 8 = q + 1 := by have := HQR.out; omega
          rw [e2]
          exact hst2
        have hpu : ((((y ||| UInt8.ofNat (x * 2 ^ (8 - 1 - 4))).toNat : Nat) : Int)) = bits .or .u8 (y.toNat : Int) (IntKind.u8.wrap ((x : Int) * 2 ^ (8 - 1 - 4))) := (put_u8 _ _ _).symm
        rw [hpu] at hfin hmod2
        have HFIN := Lib.hid hfin; have HMOD2 := Lib.hid hmod2
        have HM1 : Hid (q + 1 = ((j + 1) * 1 + 7) / 8) := Lib.hid (by have := HQR.out; omega)
        clear hst hst2 hmod2 hfin hpu HPUT HOWN HMOD
        go_wp2
        go_roundg (n - (j + 1))
        case measure => have := HK.out; omega
        case rel => exact ⟨j + 1, q + 1, g, c, by omega, rfl, HM1.out, by go_num, rfl, HFIN.out, HMOD2.out⟩
      · have hmul : IntKind.i64.wrap (j : Int) = (j : Int) := IntWalk.i64_in _ (by omega)
        have hrem : (j : Int) % 8 = 5 := by omega
        have hm8 : m = q + 1 := by omega
        subst hm8
        have hmb : q ≤ 1000000 := by omega
        clear hqr HHM HMM
        go_wp2
        have hput : rowP 1 l (j + 1) = (rowP 1 l j).set q ((rowP 1 l j).getD q 0 ||| UInt8.ofNat (x * 2 ^ (8 - 1 - 5))) := by
          have := HQR.out
          rw [HFS.out, putBit]
          rw [show j * 1 % 8 = 5 by omega, show j * 1 / 8 = q by omega, if_neg (by decide)]
        have HPUT := Lib.hid hput; have HOWN := OWN; have HMOD := HM
        clear hput HM OWN HFS hmul
        have hyq := own_byte HOWN.out q (by omega)
        have hfq := World.ownsRow.frozenAt HOWN.out q
        generalize rowP 1 l j = R2 at *
        generalize R2.getD q 0 = y at *
        have ht1 : (j : Int).tdiv 8 = (q : Int) := by rw [Int.tdiv_eq_ediv_of_nonneg (by omega)]; have := HQR.out; omega
        have ht2 : (j : Int).tmod 8 = 5 := by rw [Int.tmod_eq_emod_of_nonneg (by omega)]; have := HQR.out; omega
        have hw1 : IntKind.i64.wrap (q : Int) = (q : Int) := IntWalk.i64_in _ (by omega)
        have lw0 : IntKind.i64.wrap 0 = 0 := rfl; have lw1 : IntKind.i64.wrap 1 = 1 := rfl; have lw2 : IntKind.i64.wrap 2 = 2 := rfl; have lw3 : IntKind.i64.wrap 3 = 3 := rfl; have lw4 : IntKind.i64.wrap 4 = 4 := rfl; have lw5 : IntKind.i64.wrap 5 = 5 := rfl; have lw6 : IntKind.i64.wrap 6 = 6 := rfl; have lw7 : IntKind.i64.wrap 7 = 7 := rfl; have lw8 : IntKind.i64.wrap 8 = 8 := rfl
        have lx2 : IntKind.i64.wrap ((x : Int) * 2) = (x : Int) * 2 := IntWalk.i64_in _ (by omega); have lx4 : IntKind.i64.wrap ((x : Int) * 4) = (x : Int) * 4 := IntWalk.i64_in _ (by omega); have lx8 : IntKind.i64.wrap ((x : Int) * 8) = (x : Int) * 8 := IntWalk.i64_in _ (by omega); have lx16 : IntKind.i64.wrap ((x : Int) * 16) = (x : Int) * 16 := IntWalk.i64_in _ (by omega); have lx32 : IntKind.i64.wrap ((x : Int) * 32) = (x : Int) * 32 := IntWalk.i64_in _ (by omega); have lx64 : IntKind.i64.wrap ((x : Int) * 64) = (x : Int) * 64 := IntWalk.i64_in _ (by omega); have lx128 : IntKind.i64.wrap ((x : Int) * 128) = (x : Int) * 128 := IntWalk.i64_in _ (by omega)
        have i0 : (0 : Int) ≤ (q : Int) := by omega
        have i1 : (q : Int) < (q : Int) + 1 := by omega
        go_still_tail 14, (by kernel_rfl)
        change wpList _ _ _ _ _ wr.drew
        clear ht1 ht2 lw0 lw1 lw2 lw3 lw4 lw5 lw6 lw7 lw8 lx2 lx4 lx8 lx16 lx32 lx64 lx128
        have hst := World.ownsRow.stored HOWN.out q (.int .u8 (bits .or .u8 (y.toNat : Int) (IntKind.u8.wrap ((x : Int) * 2 ^ (8 - 1 - 5)))))
        have hst2 := hst.1
        have hmod2 : Mod (fun k => w.heap.size ≤ k) w (wr.drew.setCell ⟨g, q, none⟩ (.int .u8 (bits .or .u8 (y.toNat : Int) (IntKind.u8.wrap ((x : Int) * 2 ^ (8 - 1 - 5)))))) := HMOD.out.drew.setCell (Or.inl (HOWN.out.lt g rfl).1) _
        rw [put_u8, bytesV_set, ← HPUT.out] at hst2
        rw [put_u8] at hmod2
        have hfin : Own8 (wr.setCell ⟨g, q, none⟩ (.int .u8 (((y ||| UInt8.ofNat (x * 2 ^ (8 - 1 - 5))).toNat : Nat) : Int))) w.heap.size g c (rowP 1 l (j + 1)) := by
          unfold Own8
          rw [rowP_length 1 (by unfold DepOk; omega)]
          have e2 : ((j + 1) * 1 + 7) / 8 = q + 1 := by have := HQR.out; omega
          rw [e2]
          exact hst2
        have hpu : ((((y ||| UInt8.ofNat (x * 2 ^ (8 - 1 - 5))).toNat : Nat) : Int)) = bits .or .u8 (y.toNat : Int) (IntKind.u8.wrap ((x : Int) * 2 ^ (8 - 1 - 5))) := (put_u8 _ _ _).symm
        rw [hpu] at hfin hmod2
        have HFIN := Lib.hid hfin; have HMOD2 := Lib.hid hmod2
        have HM1 : Hid (q + 1 = ((j + 1) * 1 + 7) / 8) := Lib.hid (by have := HQR.out; omega)
        clear hst hst2 hmod2 hfin hpu HPUT HOWN HMOD
        go_wp2
        go_roundg (n - (j + 1))
        case measure => have := HK.out; omega
        case rel => exact ⟨j + 1, q + 1, g, c, by omega, rfl, HM1.out, by go_num, rfl, HFIN.out, HMOD2.out⟩
      · have hmul : IntKind.i64.wrap (j : Int) = (j : Int) := IntWalk.i64_in _ (by omega)
        have hrem : (j : Int) % 8 = 6 := by omega
        have hm8 : m = q + 1 := by omega
        subst hm8
        have hmb : q ≤ 1000000 := by omega
        clear hqr HHM HMM
        go_wp2
        have hput : rowP 1 l (j + 1) = (rowP 1 l j).set q ((rowP 1 l j).getD q 0 ||| UInt8.ofNat (x * 2 ^ (8 - 1 - 6))) := by
          have := HQR.out
          rw [HFS.out, putBit]
          rw [show j * 1 % 8 = 6 by omega, show j * 1 / 8 = q by omega, if_neg (by decide)]
        have HPUT := Lib.hid hput; have HOWN := OWN; have HMOD := HM
        clear hput HM OWN HFS hmul
        have hyq := own_byte HOWN.out q (by omega)
        have hfq := World.ownsRow.frozenAt HOWN.out q
        generalize rowP 1 l j = R2 at *
        generalize R2.getD q 0 = y at *
        have ht1 : (j : Int).tdiv 8 = (q : Int) := by rw [Int.tdiv_eq_ediv_of_nonneg (by omega)]; have := HQR.out; omega
        have ht2 : (j : Int).tmod 8 = 6 := by rw [Int.tmod_eq_emod_of_nonneg (by omega)]; have := HQR.out; omega
        have hw1 : IntKind.i64.wrap (q : Int) = (q : Int) := IntWalk.i64_in _ (by omega)
        have lw0 : IntKind.i64.wrap 0 = 0 := rfl; have lw1 : IntKind.i64.wrap 1 = 1 := rfl; have lw2 : IntKind.i64.wrap 2 = 2 := rfl; have lw3 : IntKind.i64.wrap 3 = 3 := rfl; have lw4 : IntKind.i64.wrap 4 = 4 := rfl; have lw5 : IntKind.i64.wrap 5 = 5 := rfl; have lw6 : IntKind.i64.wrap 6 = 6 := rfl; have lw7 : IntKind.i64.wrap 7 = 7 := rfl; have lw8 : IntKind.i64.wrap 8 = 8 := rfl
        have lx2 : IntKind.i64.wrap ((x : Int) * 2) = (x : Int) * 2 := IntWalk.i64_in _ (by omega); have lx4 : IntKind.i64.wrap ((x : Int) * 4) = (x : Int) * 4 := IntWalk.i64_in _ (by omega); have lx8 : IntKind.i64.wrap ((x : Int) * 8) = (x : Int) * 8 := IntWalk.i64_in _ (by omega); have lx16 : IntKind.i64.wrap ((x : Int) * 16) = (x : Int) * 16 := IntWalk.i64_in _ (by omega); have lx32 : IntKind.i64.wrap ((x : Int) * 32) = (x : Int) * 32 := IntWalk.i64_in _ (by omega); have lx64 : IntKind.i64.wrap ((x : Int) * 64) = (x : Int) * 64 := IntWalk.i64_in _ (by omega); have lx128 : IntKind.i64.wrap ((x : Int) * 128) = (x : Int) * 128 := IntWalk.i64_in _ (by omega)
        have i0 : (0 : Int) ≤ (q : Int) := by omega
        have i1 : (q : Int) < (q : Int) + 1 := by omega
        go_still_tail 14, (by kernel_rfl)
        change wpList _ _ _ _ _ wr.drew
        clear ht1 ht2 lw0 lw1 lw2 lw3 lw4 lw5 lw6 lw7 lw8 lx2 lx4 lx8 lx16 lx32 lx64 lx128
        have hst := World.ownsRow.stored HOWN.out q (.int .u8 (bits .or .u8 (y.toNat : Int) (IntKind.u8.wrap ((x : Int) * 2 ^ (8 - 1 - 6)))))
        have hst2 := hst.1
        have hmod2 : Mod (fun k => w.heap.size ≤ k) w (wr.drew.setCell ⟨g, q, none⟩ (.int .u8 (bits .or .u8 (y.toNat : Int) (IntKind.u8.wrap ((x : Int) * 2 ^ (8 - 1 - 6)))))) := HMOD.out.drew.setCell (Or.inl (HOWN.out.lt g rfl).1) _
        rw [put_u8, bytesV_set, ← HPUT.out] at hst2
        rw [put_u8] at hmod2
        have hfin : Own8 (wr.setCell ⟨g, q, none⟩ (.int .u8 (((y ||| UInt8.ofNat (x * 2 ^ (8 - 1 - 6))).toNat : Nat) : Int))) w.heap.size g c (rowP 1 l (j + 1)) := by
          unfold Own8
          rw [rowP_length 1 (by unfold DepOk; omega)]
          have e2 : ((j + 1) * 1 + 7) / 8 = q + 1 := by have := HQR.out; omega
          rw [e2]
          exact hst2
        have hpu : ((((y ||| UInt8.ofNat (x * 2 ^ (8 - 1 - 6))).toNat : Nat) : Int)) = bits .or .u8 (y.toNat : Int) (IntKind.u8.wrap ((x : Int) * 2 ^ (8 - 1 - 6))) := (put_u8 _ _ _).symm
        rw [hpu] at hfin hmod2
        have HFIN := Lib.hid hfin; have HMOD2 := Lib.hid hmod2
        have HM1 : Hid (q + 1 = ((j + 1) * 1 + 7) / 8) := Lib.hid (by have := HQR.out; omega)
        clear hst hst2 hmod2 hfin hpu HPUT HOWN HMOD
        go_wp2
        go_roundg (n - (j + 1))
        case measure => have := HK.out; omega
        case rel => exact ⟨j + 1, q + 1, g, c, by omega, rfl, HM1.out, by go_num, rfl, HFIN.out, HMOD2.out⟩
      · have hmul : IntKind.i64.wrap (j : Int) = (j : Int) := IntWalk.i64_in _ (by omega)
        have hrem : (j : Int) % 8 = 7 := by omega
        have hm8 : m = q + 1 := by omega
        subst hm8
        have hmb : q ≤ 1000000 := by omega
        clear hqr HHM HMM
        go_wp2
        have hput : rowP 1 l (j + 1) = (rowP 1 l j).set q ((rowP 1 l j).getD q 0 ||| UInt8.ofNat (x * 2 ^ (8 - 1 - 7))) := by
          have := HQR.out
          rw [HFS.out, putBit]
          rw [show j * 1 % 8 = 7 by omega, show j * 1 / 8 = q by omega, if_neg (by decide)]
        have HPUT := Lib.hid hput; have HOWN := OWN; have HMOD := HM
        clear hput HM OWN HFS hmul
        have hyq := own_byte HOWN.out q (by omega)
        have hfq := World.ownsRow.frozenAt HOWN.out q
        generalize rowP 1 l j = R2 at *
        generalize R2.getD q 0 = y at *
        have ht1 : (j : Int).tdiv 8 = (q : Int) := by rw [Int.tdiv_eq_ediv_of_nonneg (by omega)]; have := HQR.out; omega
        have ht2 : (j : Int).tmod 8 = 7 := by rw [Int.tmod_eq_emod_of_nonneg (by omega)]; have := HQR.out; omega
        have hw1 : IntKind.i64.wrap (q : Int) = (q : Int) := IntWalk.i64_in _ (by omega)
        have lw0 : IntKind.i64.wrap 0 = 0 := rfl; have lw1 : IntKind.i64.wrap 1 = 1 := rfl; have lw2 : IntKind.i64.wrap 2 = 2 := rfl; have lw3 : IntKind.i64.wrap 3 = 3 := rfl; have lw4 : IntKind.i64.wrap 4 = 4 := rfl; have lw5 : IntKind.i64.wrap 5 = 5 := rfl; have lw6 : IntKind.i64.wrap 6 = 6 := rfl; have lw7 : IntKind.i64.wrap 7 = 7 := rfl; have lw8 : IntKind.i64.wrap 8 = 8 := rfl
        have lx2 : IntKind.i64.wrap ((x : Int) * 2) = (x : Int) * 2 := IntWalk.i64_in _ (by omega); have lx4 : IntKind.i64.wrap ((x : Int) * 4) = (x : Int) * 4 := IntWalk.i64_in _ (by omega); have lx8 : IntKind.i64.wrap ((x : Int) * 8) = (x : Int) * 8 := IntWalk.i64_in _ (by omega); have lx16 : IntKind.i64.wrap ((x : Int) * 16) = (x : Int) * 16 := IntWalk.i64_in _ (by omega); have lx32 : IntKind.i64.wrap ((x : Int) * 32) = (x : Int) * 32 := IntWalk.i64_in _ (by omega); have lx64 : IntKind.i64.wrap ((x : Int) * 64) = (x : Int) * 64 := IntWalk.i64_in _ (by omega); have lx128 : IntKind.i64.wrap ((x : Int) * 128) = (x : Int) * 128 := IntWalk.i64_in _ (by omega)
        have i0 : (0 : Int) ≤ (q : Int) := by omega
        have i1 : (q : Int) < (q : Int) + 1 := by omega
        go_still_tail 14, (by kernel_rfl)
        change wpList _ _ _ _ _ wr.drew
        clear ht1 ht2 lw0 lw1 lw2 lw3 lw4 lw5 lw6 lw7 lw8 lx2 lx4 lx8 lx16 lx32 lx64 lx128
        have hst := World.ownsRow.stored HOWN.out q (.int .u8 (bits .or .u8 (y.toNat : Int) (IntKind.u8.wrap (x : Int))))
        have hst2 := hst.1
        have hmod2 : Mod (fun k => w.heap.size ≤ k) w (wr.drew.setCell ⟨g, q, none⟩ (.int .u8 (bits .or .u8 (y.toNat : Int) (IntKind.u8.wrap (x : Int))))) := HMOD.out.drew.setCell (Or.inl (HOWN.out.lt g rfl).1) _
        rw [put_u80 _ _ (8 - 1 - 7) rfl, bytesV_set, ← HPUT.out] at hst2
        rw [put_u80 _ _ (8 - 1 - 7) rfl] at hmod2
        have hfin : Own8 (wr.setCell ⟨g, q, none⟩ (.int .u8 (((y ||| UInt8.ofNat (x * 2 ^ (8 - 1 - 7))).toNat : Nat) : Int))) w.heap.size g c (rowP 1 l (j + 1)) := by
          unfold Own8
          rw [rowP_length 1 (by unfold DepOk; omega)]
          have e2 : ((j + 1) * 1 + 7) / 8 = q + 1 := by have := HQR.out; omega
          rw [e2]
          exact hst2
        have hpu : ((((y ||| UInt8.ofNat (x * 2 ^ (8 - 1 - 7))).toNat : Nat) : Int)) = bits .or .u8 (y.toNat : Int) (IntKind.u8.wrap (x : Int)) := (put_u80 _ _ (8 - 1 - 7) rfl).symm
        rw [hpu] at hfin hmod2
        have HFIN := Lib.hid hfin; have HMOD2 := Lib.hid hmod2
        have HM1 : Hid (q + 1 = ((j + 1) * 1 + 7) / 8) := Lib.hid (by have := HQR.out; omega)
        clear hst hst2 hmod2 hfin hpu HPUT HOWN HMOD
        go_wp2
        go_roundg (n - (j + 1))
        case measure => have := HK.out; omega
        case rel => exact ⟨j + 1, q + 1, g, c, by omega, rfl, HM1.out, by go_num, rfl, HFIN.out, HMOD2.out⟩
    · obtain rfl : j = n := by omega
      have HO := Lib.hid own; have HM := Lib.hid mm; have HMM := Lib.hid hm
      clear own mm hkk hlen hm
      go_wp2
      go_ret
      refine ⟨g, c, by rw [HMM.out]; rfl, ?_, (Mod.refl (fun _ => False) w).then HM.out (fun k hk hs => by omega)⟩
      unfold rowL
      rw [HL.out]
      exact HO.out

set_option maxRecDepth 100000 in
set_option maxHeartbeats 8000000 in
theorem specRowB2 (w : World) (a : Option Addr) (n c : Nat) (l : List Nat) (hl : l.length = n) (hs : SlI w a l) (hb : ∀ x ∈ l, x < 65536) (hn : n ≤ 1000000) :
    Calls Tryz.prog 76 #[.slice a n c, .int .i64 2] w fun e w' => ∃ g c, e = .returned (.slice (some ⟨g, 0, none⟩) ((n * 2 + 7) / 8) c) ∧ Own8 w' w.heap.size g c (rowL 2 l) ∧ Mod (fun _ => False) w w' := by
  have HS := Lib.hid hs; have HL := Lib.hid hl; have HB := Lib.hid hb
  have h0 := Own8.new w w.heap.size (Nat.le_refl _)
  have m0 : Mod (fun k => w.heap.size ≤ k) w (w.alloc (.cells #[] 5)) := (Mod.refl _ w).alloc _
  have H0 := Lib.hid h0; have M0 := Lib.hid m0
  clear hs hl hb h0 m0
  go_enter Tryz.func76, Tryz.ntmps76
  go_wp2
  go_loopg [5, 6, 7, 8, 12] (n - 0) (fun k v5 _ _ _ v12 wr => ∃ j m g c : Nat, j ≤ n ∧ k = n - j ∧ m = (j * 2 + 7) / 8 ∧ v12 = .int .i64 j ∧ v5 = .slice (some ⟨g, 0, none⟩) m c ∧ Own8 wr w.heap.size g c (rowP 2 l j) ∧ Mod (fun k => w.heap.size ≤ k) w wr)
  case atStart => exact ⟨0, 0, w.heap.size, 0, by omega, rfl, rfl, rfl, rfl, H0.out, M0.out⟩
  case round =>
    obtain ⟨j, m, g, c, hj, hkk, hm, rfl, rfl, own, mm⟩ := hrel
    have hlen : (rowP 2 l j).length = m := by rw [rowP_length 2 (by unfold DepOk; omega)]; exact hm.symm
    by_cases hlt : j < n
    · obtain ⟨b1, o1, rfl, -⟩ := HS.out.some j (by have := HL.out; omega)
      have s1 := HS.out.mod mm (fun k hk hs => by omega)
      obtain ⟨b1', o1', he1, hc1⟩ := s1.some j (by have := HL.out; omega)
      cases he1
      have hv := getD_le HB.out j (by decide)
      have hfs : rowP 2 l (j + 1) = putBit 2 (rowP 2 l j) j (l.getD j 0) := by rw [rowP, if_neg (by decide), if_neg (by decide)]
      have own' : wr.ownsRow w.heap.size 5 1 (.slice (some ⟨g, 0, none⟩) m c) m (bytesV (rowP 2 l j)) := by have h := own; unfold Own8 at h; rwa [hlen] at h
      have hg := own.base
      have HFS := Lib.hid hfs; have OWN := Lib.hid own'; have HM := Lib.hid mm; have HK := Lib.hid hkk; have HLEN := Lib.hid hlen; have HMM := Lib.hid hm
      clear hfs own own' mm hkk s1 hlen hm
      generalize l.getD j 0 = x at *
      obtain ⟨q, r, hqr, hr8⟩ : ∃ q r, j * 2 = 8 * q + r ∧ r < 8 := ⟨j * 2 / 8, j * 2 % 8, by omega, by omega⟩
      have hr9 : r = 0 ∨ r = 1 ∨ r = 2 ∨ r = 3 ∨ r = 4 ∨ r = 5 ∨ r = 6 ∨ r = 7 := by omega
      rcases hr9 with rfl | rfl | rfl | rfl | rfl | rfl | rfl | rfl
      all_goals first | (exfalso; omega) | skip
      all_goals
        have HQR := Lib.hid hqr
        have HHM := HMM.out
        have hx2 : x < 65536 := hv
      · have hmul : IntKind.i64.wrap ((j : Int) * 2) = 8 * (q : Int) := by rw [IntWalk.i64_in _ (by omega)]; omega
        have hm8 : m = q := by omega
        subst hm8
        have hmb : m ≤ 1000000 := by omega
        clear hqr HHM HMM
        go_wp2_with (at_builtin; go_must (refine wpList_app el8 rfl (.tmp 24) (.tmp 25) rfl w.heap.size (.slice (some ⟨g, 0, none⟩) m c) m (bytesV (rowP 2 l j)) rfl (World.ownsRow.alloc OWN.out _) ⟨wr.heap.size, 0, none⟩ 1 1 _ rfl rfl (news1 wr [_] _) (by simp [Value.oneCell']) (Or.inl (by simp)) (by omega) (by omega) (by have := HM.out.size; simp; omega) ?_; intro g2 c2 w2 hap))
        have hown := hap.out.own
        have hmod : Mod (fun k => w.heap.size ≤ k) w w2 := (HM.out.alloc _).trans (hap.out.mod.mono (fun k _ hk => by simp [Value.ownBlock] at hk; omega))
        have hr2 : (rowP 2 l j ++ [0]).length = m + 1 := by have := HLEN.out; simp; omega
        have hown2 : w2.ownsRow w.heap.size 5 1 (.slice (some ⟨g2, 0, none⟩) (m + 1) c2) (m + 1) (bytesV (rowP 2 l j ++ [0])) := by rw [bytesV_append]; exact hown
        have hput : rowP 2 l (j + 1) = (rowP 2 l j ++ [0]).set m ((rowP 2 l j ++ [0]).getD m 0 ||| UInt8.ofNat (x * 2 ^ (8 - 2 - 0))) := by
          have := HQR.out
          rw [HFS.out, putBit]
          simp only [show j * 2 % 8 = 0 by omega, show j * 2 / 8 = m by omega, reduceIte]
        have HPUT := Lib.hid hput; have HOWN := Lib.hid hown2; have HMOD := Lib.hid hmod; have HR2 := Lib.hid hr2
        clear hown hmod hown2 hput hap HM OWN HFS hmul hr2
        have hyq := own_byte HOWN.out m (by omega)
        have hfq := World.ownsRow.frozenAt HOWN.out m
        generalize rowP 2 l j ++ [0] = R2 at *
        generalize R2.getD m 0 = y at *
        have ht1 : (8 * (m : Int)).tdiv 8 = (m : Int) := by rw [Int.tdiv_eq_ediv_of_nonneg (by omega)]; omega
        have ht2 : (8 * (m : Int)).tmod 8 = 0 := by rw [Int.tmod_eq_emod_of_nonneg (by omega)]; omega
        have hw1 : IntKind.i64.wrap (m : Int) = (m : Int) := IntWalk.i64_in _ (by omega)
        have lw0 : IntKind.i64.wrap 0 = 0 := rfl; have lw1 : IntKind.i64.wrap 1 = 1 := rfl; have lw2 : IntKind.i64.wrap 2 = 2 := rfl; have lw3 : IntKind.i64.wrap 3 = 3 := rfl; have lw4 : IntKind.i64.wrap 4 = 4 := rfl; have lw5 : IntKind.i64.wrap 5 = 5 := rfl; have lw6 : IntKind.i64.wrap 6 = 6 := rfl; have lw7 : IntKind.i64.wrap 7 = 7 := rfl; have lw8 : IntKind.i64.wrap 8 = 8 := rfl
        have lx2 : IntKind.i64.wrap ((x : Int) * 2) = (x : Int) * 2 := IntWalk.i64_in _ (by omega); have lx4 : IntKind.i64.wrap ((x : Int) * 4) = (x : Int) * 4 := IntWalk.i64_in _ (by omega); have lx8 : IntKind.i64.wrap ((x : Int) * 8) = (x : Int) * 8 := IntWalk.i64_in _ (by omega); have lx16 : IntKind.i64.wrap ((x : Int) * 16) = (x : Int) * 16 := IntWalk.i64_in _ (by omega); have lx32 : IntKind.i64.wrap ((x : Int) * 32) = (x : Int) * 32 := IntWalk.i64_in _ (by omega); have lx64 : IntKind.i64.wrap ((x : Int) * 64) = (x : Int) * 64 := IntWalk.i64_in _ (by omega); have lx128 : IntKind.i64.wrap ((x : Int) * 128) = (x : Int) * 128 := IntWalk.i64_in _ (by omega)
        have i0 : (0 : Int) ≤ (m : Int) := by omega
        have i1 : (m : Int) < (m : Int) + 1 := by omega
        go_still_tail 14, (by kernel_rfl)
        change wpList _ _ _ _ _ w2.drew
        clear ht1 ht2 lw0 lw1 lw2 lw3 lw4 lw5 lw6 lw7 lw8 lx2 lx4 lx8 lx16 lx32 lx64 lx128
        have hst := World.ownsRow.stored HOWN.out m (.int .u8 (bits .or .u8 (y.toNat : Int) (IntKind.u8.wrap ((x : Int) * 2 ^ (8 - 2 - 0)))))
        have hst2 := hst.1
        have hmod2 : Mod (fun k => w.heap.size ≤ k) w (w2.drew.setCell ⟨g2, m, none⟩ (.int .u8 (bits .or .u8 (y.toNat : Int) (IntKind.u8.wrap ((x : Int) * 2 ^ (8 - 2 - 0)))))) := HMOD.out.drew.setCell (Or.inl (HOWN.out.lt g2 rfl).1) _
        rw [put_u8, bytesV_set, ← HPUT.out] at hst2
        rw [put_u8] at hmod2
        have hfin : Own8 (w2.setCell ⟨g2, m, none⟩ (.int .u8 (((y ||| UInt8.ofNat (x * 2 ^ (8 - 2 - 0))).toNat : Nat) : Int))) w.heap.size g2 c2 (rowP 2 l (j + 1)) := by
          unfold Own8
          rw [rowP_length 2 (by unfold DepOk; omega)]
          have e2 : ((j + 1) * 2 + 7) / 8 = m + 1 := by have := HQR.out; omega
          rw [e2]
          exact hst2
        have hpu : ((((y ||| UInt8.ofNat (x * 2 ^ (8 - 2 - 0))).toNat : Nat) : Int)) = bits .or .u8 (y.toNat : Int) (IntKind.u8.wrap ((x : Int) * 2 ^ (8 - 2 - 0))) := (put_u8 _ _ _).symm
        rw [hpu] at hfin hmod2
        have HFIN := Lib.hid hfin; have HMOD2 := Lib.hid hmod2
        have HM1 : Hid (m + 1 = ((j + 1) * 2 + 7) / 8) := Lib.hid (by have := HQR.out; omega)
        clear hst hst2 hmod2 hfin hpu HPUT HOWN HMOD
        go_wp2
        go_roundg (n - (j + 1))
        case measure => have := HK.out; omega
        case rel => exact ⟨j + 1, m + 1, g2, c2, by omega, rfl, HM1.out, by go_num, rfl, HFIN.out, HMOD2.out⟩
      · have hmul : IntKind.i64.wrap ((j : Int) * 2) = 8 * (q : Int) + 2 := by rw [IntWalk.i64_in _ (by omega)]; omega
        have hm8 : m = q + 1 := by omega
        subst hm8
        have hmb : q ≤ 1000000 := by omega
        clear hqr HHM HMM
        go_wp2
        have hput : rowP 2 l (j + 1) = (rowP 2 l j).set q ((rowP 2 l j).getD q 0 ||| UInt8.ofNat (x * 2 ^ (8 - 2 - 2))) := by
          have := HQR.out
          rw [HFS.out, putBit]
          rw [show j * 2 % 8 = 2 by omega, show j * 2 / 8 = q by omega, if_neg (by decide)]
        have HPUT := Lib.hid hput; have HOWN := OWN; have HMOD := HM
        clear hput HM OWN HFS hmul
        have hyq := own_byte HOWN.out q (by omega)
        have hfq := World.ownsRow.frozenAt HOWN.out q
        generalize rowP 2 l j = R2 at *
        generalize R2.getD q 0 = y at *
        have ht1 : (8 * (q : Int) + 2).tdiv 8 = (q : Int) := by rw [Int.tdiv_eq_ediv_of_nonneg (by omega)]; omega
        have ht2 : (8 * (q : Int) + 2).tmod 8 = 2 := by rw [Int.tmod_eq_emod_of_nonneg (by omega)]; omega
        have hw1 : IntKind.i64.wrap (q : Int) = (q : Int) := IntWalk.i64_in _ (by omega)
        have lw0 : IntKind.i64.wrap 0 = 0 := rfl; have lw1 : IntKind.i64.wrap 1 = 1 := rfl; have lw2 : IntKind.i64.wrap 2 = 2 := rfl; have lw3 : IntKind.i64.wrap 3 = 3 := rfl; have lw4 : IntKind.i64.wrap 4 = 4 := rfl; have lw5 : IntKind.i64.wrap 5 = 5 := rfl; have lw6 : IntKind.i64.wrap 6 = 6 := rfl; have lw7 : IntKind.i64.wrap 7 = 7 := rfl; have lw8 : IntKind.i64.wrap 8 = 8 := rfl
        have lx2 : IntKind.i64.wrap ((x : Int) * 2) = (x : Int) * 2 := IntWalk.i64_in _ (by omega); have lx4 : IntKind.i64.wrap ((x : Int) * 4) = (x : Int) * 4 := IntWalk.i64_in _ (by omega); have lx8 : IntKind.i64.wrap ((x : Int) * 8) = (x : Int) * 8 := IntWalk.i64_in _ (by omega); have lx16 : IntKind.i64.wrap ((x : Int) * 16) = (x : Int) * 16 := IntWalk.i64_in _ (by omega); have lx32 : IntKind.i64.wrap ((x : Int) * 32) = (x : Int) * 32 := IntWalk.i64_in _ (by omega); have lx64 : IntKind.i64.wrap ((x : Int) * 64) = (x : Int) * 64 := IntWalk.i64_in _ (by omega); have lx128 : IntKind.i64.wrap ((x : Int) * 128) = (x : Int) * 128 := IntWalk.i64_in _ (by omega)
        have i0 : (0 : Int) ≤ (q : Int) := by omega
        have i1 : (q : Int) < (q : Int) + 1 := by omega
        go_still_tail 14, (by kernel_rfl)
        change wpList _ _ _ _ _ wr.drew
        clear ht1 ht2 lw0 lw1 lw2 lw3 lw4 lw5 lw6 lw7 lw8 lx2 lx4 lx8 lx16 lx32 lx64 lx128
        have hst := World.ownsRow.stored HOWN.out q (.int .u8 (bits .or .u8 (y.toNat : Int) (IntKind.u8.wrap ((x : Int) * 2 ^ (8 - 2 - 2)))))
        have hst2 := hst.1
        have hmod2 : Mod (fun k => w.heap.size ≤ k) w (wr.drew.setCell ⟨g, q, none⟩ (.int .u8 (bits .or .u8 (y.toNat : Int) (IntKind.u8.wrap ((x : Int) * 2 ^ (8 - 2 - 2)))))) := HMOD.out.drew.setCell (Or.inl (HOWN.out.lt g rfl).1) _
        rw [put_u8, bytesV_set, ← HPUT.out] at hst2
        rw [put_u8] at hmod2
        have hfin : Own8 (wr.setCell ⟨g, q, none⟩ (.int .u8 (((y ||| UInt8.ofNat (x * 2 ^ (8 - 2 - 2))).toNat : Nat) : Int))) w.heap.size g c (rowP 2 l (j + 1)) := by
          unfold Own8
          rw [rowP_length 2 (by unfold DepOk; omega)]
          have e2 : ((j + 1) * 2 + 7) / 8 = q + 1 := by have := HQR.out; omega
          rw [e2]
          exact hst2
        have hpu : ((((y ||| UInt8.ofNat (x * 2 ^ (8 - 2 - 2))).toNat : Nat) : Int)) = bits .or .u8 (y.toNat : Int) (IntKind.u8.wrap ((x : Int) * 2 ^ (8 - 2 - 2))) := (put_u8 _ _ _).symm
        rw [hpu] at hfin hmod2
        have HFIN := Lib.hid hfin; have HMOD2 := Lib.hid hmod2
        have HM1 : Hid (q + 1 = ((j + 1) * 2 + 7) / 8) := Lib.hid (by have := HQR.out; omega)
        clear hst hst2 hmod2 hfin hpu HPUT HOWN HMOD
        go_wp2
        go_roundg (n - (j + 1))
        case measure => have := HK.out; omega
        case rel => exact ⟨j + 1, q + 1, g, c, by omega, rfl, HM1.out, by go_num, rfl, HFIN.out, HMOD2.out⟩
      · have hmul : IntKind.i64.wrap ((j : Int) * 2) = 8 * (q : Int) + 4 := by rw [IntWalk.i64_in _ (by omega)]; omega
        have hm8 : m = q + 1 := by omega
        subst hm8
        have hmb : q ≤ 1000000 := by omega
        clear hqr HHM HMM
        go_wp2
        have hput : rowP 2 l (j + 1) = (rowP 2 l j).set q ((rowP 2 l j).getD q 0 ||| UInt8.ofNat (x * 2 ^ (8 - 2 - 4))) := by
          have := HQR.out
          rw [HFS.out, putBit]
          rw [show j * 2 % 8 = 4 by omega, show j * 2 / 8 = q by omega, if_neg (by decide)]
        have HPUT := Lib.hid hput; have HOWN := OWN; have HMOD := HM
        clear hput HM OWN HFS hmul
        have hyq := own_byte HOWN.out q (by omega)
        have hfq := World.ownsRow.frozenAt HOWN.out q
        generalize rowP 2 l j = R2 at *
        generalize R2.getD q 0 = y at *
        have ht1 : (8 * (q : Int) + 4).tdiv 8 = (q : Int) := by rw [Int.tdiv_eq_ediv_of_nonneg (by omega)]; omega
        have ht2 : (8 * (q : Int) + 4).tmod 8 = 4 := by rw [Int.tmod_eq_emod_of_nonneg (by omega)]; omega
        have hw1 : IntKind.i64.wrap (q : Int) = (q : Int) := IntWalk.i64_in _ (by omega)
        have lw0 : IntKind.i64.wrap 0 = 0 := rfl; have lw1 : IntKind.i64.wrap 1 = 1 := rfl; have lw2 : IntKind.i64.wrap 2 = 2 := rfl; have lw3 : IntKind.i64.wrap 3 = 3 := rfl; have lw4 : IntKind.i64.wrap 4 = 4 := rfl; have lw5 : IntKind.i64.wrap 5 = 5 := rfl; have lw6 : IntKind.i64.wrap 6 = 6 := rfl; have lw7 : IntKind.i64.wrap 7 = 7 := rfl; have lw8 : IntKind.i64.wrap 8 = 8 := rfl
        have lx2 : IntKind.i64.wrap ((x : Int) * 2) = (x : Int) * 2 := IntWalk.i64_in _ (by omega); have lx4 : IntKind.i64.wrap ((x : Int) * 4) = (x : Int) * 4 := IntWalk.i64_in _ (by omega); have lx8 : IntKind.i64.wrap ((x : Int) * 8) = (x : Int) * 8 := IntWalk.i64_in _ (by omega); have lx16 : IntKind.i64.wrap ((x : Int) * 16) = (x : Int) * 16 := IntWalk.i64_in _ (by omega); have lx32 : IntKind.i64.wrap ((x : Int) * 32) = (x : Int) * 32 := IntWalk.i64_in _ (by omega); have lx64 : IntKind.i64.wrap ((x : Int) * 64) = (x : Int) * 64 := IntWalk.i64_in _ (by omega); have lx128 : IntKind.i64.wrap ((x : Int) * 128) = (x : Int) * 128 := IntWalk.i64_in _ (by omega)
        have i0 : (0 : Int) ≤ (q : Int) := by omega
        have i1 : (q : Int) < (q : Int) + 1 := by omega
        go_still_tail 14, (by kernel_rfl)
        change wpList _ _ _ _ _ wr.drew
        clear ht1 ht2 lw0 lw1 lw2 lw3 lw4 lw5 lw6 lw7 lw8 lx2 lx4 lx8 lx16 lx32 lx64 lx128
        have hst := World.ownsRow.stored HOWN.out q (.int .u8 (bits .or .u8 (y.toNat : Int) (IntKind.u8.wrap ((x : Int) * 2 ^ (8 - 2 - 4)))))
        have hst2 := hst.1
        have hmod2 : Mod (fun k => w.heap.size ≤ k) w (wr.drew.setCell ⟨g, q, none⟩ (.int .u8 (bits .or .u8 (y.toNat : Int) (IntKind.u8.wrap ((x : Int) * 2 ^ (8 - 2 - 4)))))) := HMOD.out.drew.setCell (Or.inl (HOWN.out.lt g rfl).1) _
        rw [put_u8, bytesV_set, ← HPUT.out] at hst2
        rw [put_u8] at hmod2
        have hfin : Own8 (wr.setCell ⟨g, q, none⟩ (.int .u8 (((y ||| UInt8.ofNat (x * 2 ^ (8 - 2 - 4))).toNat : Nat) : Int))) w.heap.size g c (rowP 2 l (j + 1)) := by
          unfold Own8
          rw [rowP_length 2 (by unfold DepOk; omega)]
          have e2 : ((j + 1) * 2 + 7) / 8 = q + 1 := by have := HQR.out; omega
          rw [e2]
          exact hst2
        have hpu : ((((y ||| UInt8.ofNat (x * 2 ^ (8 - 2 - 4))).toNat : Nat) : Int)) = bits .or .u8 (y.toNat : Int) (IntKind.u8.wrap ((x : Int) * 2 ^ (8 - 2 - 4))) := (put_u8 _ _ _).symm
        rw [hpu] at hfin hmod2
        have HFIN := Lib.hid hfin; have HMOD2 := Lib.hid hmod2
        have HM1 : Hid (q + 1 = ((j + 1) * 2 + 7) / 8) := Lib.hid (by have := HQR.out; omega)
        clear hst hst2 hmod2 hfin hpu HPUT HOWN HMOD
        go_wp2
        go_roundg (n - (j + 1))
        case measure => have := HK.out; omega
        case rel => exact ⟨j + 1, q + 1, g, c, by omega, rfl, HM1.out, by go_num, rfl, HFIN.out, HMOD2.out⟩
      · have hmul : IntKind.i64.wrap ((j : Int) * 2) = 8 * (q : Int) + 6 := by rw [IntWalk.i64_in _ (by omega)]; omega
        have hm8 : m = q + 1 := by omega
        subst hm8
        have hmb : q ≤ 1000000 := by omega
        clear hqr HHM HMM
        go_wp2
        have hput : rowP 2 l (j + 1) = (rowP 2 l j).set q ((rowP 2 l j).getD q 0 ||| UInt8.ofNat (x * 2 ^ (8 - 2 - 6))) := by
          have := HQR.out
          rw [HFS.out, putBit]
          rw [show j * 2 % 8 = 6 by omega, show j * 2 / 8 = q by omega, if_neg (by decide)]
        have HPUT := Lib.hid hput; have HOWN := OWN; have HMOD := HM
        clear hput HM OWN HFS hmul
        have hyq := own_byte HOWN.out q (by omega)
        have hfq := World.ownsRow.frozenAt HOWN.out q
        generalize rowP 2 l j = R2 at *
        generalize R2.getD q 0 = y at *
        have ht1 : (8 * (q : Int) + 6).tdiv 8 = (q : Int) := by rw [Int.tdiv_eq_ediv_of_nonneg (by omega)]; omega
        have ht2 : (8 * (q : Int) + 6).tmod 8 = 6 := by rw [Int.tmod_eq_emod_of_nonneg (by omega)]; omega
        have hw1 : IntKind.i64.wrap (q : Int) = (q : Int) := IntWalk.i64_in _ (by omega)
        have lw0 : IntKind.i64.wrap 0 = 0 := rfl; have lw1 : IntKind.i64.wrap 1 = 1 := rfl; have lw2 : IntKind.i64.wrap 2 = 2 := rfl; have lw3 : IntKind.i64.wrap 3 = 3 := rfl; have lw4 : IntKind.i64.wrap 4 = 4 := rfl; have lw5 : IntKind.i64.wrap 5 = 5 := rfl; have lw6 : IntKind.i64.wrap 6 = 6 := rfl; have lw7 : IntKind.i64.wrap 7 = 7 := rfl; have lw8 : IntKind.i64.wrap 8 = 8 := rfl
        have lx2 : IntKind.i64.wrap ((x : Int) * 2) = (x : Int) * 2 := IntWalk.i64_in _ (by omega); have lx4 : IntKind.i64.wrap ((x : Int) * 4) = (x : Int) * 4 := IntWalk.i64_in _ (by omega); have lx8 : IntKind.i64.wrap ((x : Int) * 8) = (x : Int) * 8 := IntWalk.i64_in _ (by omega); have lx16 : IntKind.i64.wrap ((x : Int) * 16) = (x : Int) * 16 := IntWalk.i64_in _ (by omega); have lx32 : IntKind.i64.wrap ((x : Int) * 32) = (x : Int) * 32 := IntWalk.i64_in _ (by omega); have lx64 : IntKind.i64.wrap ((x : Int) * 64) = (x : Int) * 64 := IntWalk.i64_in _ (by omega); have lx128 : IntKind.i64.wrap ((x : Int) * 128) = (x : Int) * 128 := IntWalk.i64_in _ (by omega)
        have i0 : (0 : Int) ≤ (q : Int) := by omega
        have i1 : (q : Int) < (q : Int) + 1 := by omega
        go_still_tail 14, (by kernel_rfl)
        change wpList _ _ _ _ _ wr.drew
        clear ht1 ht2 lw0 lw1 lw2 lw3 lw4 lw5 lw6 lw7 lw8 lx2 lx4 lx8 lx16 lx32 lx64 lx128
        have hst := World.ownsRow.stored HOWN.out q (.int .u8 (bits .or .u8 (y.toNat : Int) (IntKind.u8.wrap (x : Int))))
        have hst2 := hst.1
        have hmod2 : Mod (fun k => w.heap.size ≤ k) w (wr.drew.setCell ⟨g, q, none⟩ (.int .u8 (bits .or .u8 (y.toNat : Int) (IntKind.u8.wrap (x : Int))))) := HMOD.out.drew.setCell (Or.inl (HOWN.out.lt g rfl).1) _
        rw [put_u80 _ _ (8 - 2 - 6) rfl, bytesV_set, ← HPUT.out] at hst2
        rw [put_u80 _ _ (8 - 2 - 6) rfl] at hmod2
        have hfin : Own8 (wr.setCell ⟨g, q, none⟩ (.int .u8 (((y ||| UInt8.ofNat (x * 2 ^ (8 - 2 - 6))).toNat : Nat) : Int))) w.heap.size g c (rowP 2 l (j + 1)) := by
          unfold Own8
          rw [rowP_length 2 (by unfold DepOk; omega)]
          have e2 : ((j + 1) * 2 + 7) / 8 = q + 1 := by have := HQR.out; omega
          rw [e2]
          exact hst2
        have hpu : ((((y ||| UInt8.ofNat (x * 2 ^ (8 - 2 - 6))).toNat : Nat) : Int)) = bits .or .u8 (y.toNat : Int) (IntKind.u8.wrap (x : Int)) := (put_u80 _ _ (8 - 2 - 6) rfl).symm
        rw [hpu] at hfin hmod2
        have HFIN := Lib.hid hfin; have HMOD2 := Lib.hid hmod2
        have HM1 : Hid (q + 1 = ((j + 1) * 2 + 7) / 8) := Lib.hid (by have := HQR.out; omega)
        clear hst hst2 hmod2 hfin hpu HPUT HOWN HMOD
        go_wp2
        go_roundg (n - (j + 1))
        case measure => have := HK.out; omega
        case rel => exact ⟨j + 1, q + 1, g, c, by omega, rfl, HM1.out, by go_num, rfl, HFIN.out, HMOD2.out⟩
    · obtain rfl : j = n := by omega
      have HO := Lib.hid own; have HM := Lib.hid mm; have HMM := Lib.hid hm
      clear own mm hkk hlen hm
      go_wp2
      go_ret
      refine ⟨g, c, by rw [HMM.out]; rfl, ?_, (Mod.refl (fun _ => False) w).then HM.out (fun k hk hs => by omega)⟩
      unfold rowL
      rw [HL.out]
      exact HO.out

set_option maxRecDepth 100000 in
set_option maxHeartbeats 8000000 in
theorem specRowB4 (w : World) (a : Option Addr) (n c : Nat) (l : List Nat) (hl : l.length = n) (hs : SlI w a l) (hb : ∀ x ∈ l, x < 65536) (hn : n ≤ 1000000) :
    Calls Tryz.prog 76 #[.slice a n c, .int .i64 4] w fun e w' => ∃ g c, e = .returned (.slice (some ⟨g, 0, none⟩) ((n * 4 + 7) / 8) c) ∧ Own8 w' w.heap.size g c (rowL 4 l) ∧ Mod (fun _ => False) w w' := by
  have HS := Lib.hid hs; have HL := Lib.hid hl; have HB := Lib.hid hb
  have h0 := Own8.new w w.heap.size (Nat.le_refl _)
  have m0 : Mod (fun k => w.heap.size ≤ k) w (w.alloc (.cells #[] 5)) := (Mod.refl _ w).alloc _
  have H0 := Lib.hid h0; have M0 := Lib.hid m0
  clear hs hl hb h0 m0
  go_enter Tryz.func76, Tryz.ntmps76
  go_wp2
  go_loopg [5, 6, 7, 8, 12] (n - 0) (fun k v5 _ _ _ v12 wr => ∃ j m g c : Nat, j ≤ n ∧ k = n - j ∧ m = (j * 4 + 7) / 8 ∧ v12 = .int .i64 j ∧ v5 = .slice (some ⟨g, 0, none⟩) m c ∧ Own8 wr w.heap.size g c (rowP 4 l j) ∧ Mod (fun k => w.heap.size ≤ k) w wr)
  case atStart => exact ⟨0, 0, w.heap.size, 0, by omega, rfl, rfl, rfl, rfl, H0.out, M0.out⟩
  case round =>
    obtain ⟨j, m, g, c, hj, hkk, hm, rfl, rfl, own, mm⟩ := hrel
    have hlen : (rowP 4 l j).length = m := by rw [rowP_length 4 (by unfold DepOk; omega)]; exact hm.symm
    by_cases hlt : j < n
    · obtain ⟨b1, o1, rfl, -⟩ := HS.out.some j (by have := HL.out; omega)
      have s1 := HS.out.mod mm (fun k hk hs => by omega)
      obtain ⟨b1', o1', he1, hc1⟩ := s1.some j (by have := HL.out; omega)
      cases he1
      have hv := getD_le HB.out j (by decide)
      have hfs : rowP 4 l (j + 1) = putBit 4 (rowP 4 l j) j (l.getD j 0) := by rw [rowP, if_neg (by decide), if_neg (by decide)]
      have own' : wr.ownsRow w.heap.size 5 1 (.slice (some ⟨g, 0, none⟩) m c) m (bytesV (rowP 4 l j)) := by have h := own; unfold Own8 at h; rwa [hlen] at h
      have hg := own.base
      have HFS := Lib.hid hfs; have OWN := Lib.hid own'; have HM := Lib.hid mm; have HK := Lib.hid hkk; have HLEN := Lib.hid hlen; have HMM := Lib.hid hm
      clear hfs own own' mm hkk s1 hlen hm
      generalize l.getD j 0 = x at *
      obtain ⟨q, r, hqr, hr8⟩ : ∃ q r, j * 4 = 8 * q + r ∧ r < 8 := ⟨j * 4 / 8, j * 4 % 8, by omega, by omega⟩
      have hr9 : r = 0 ∨ r = 1 ∨ r = 2 ∨ r = 3 ∨ r = 4 ∨ r = 5 ∨ r = 6 ∨ r = 7 := by omega
      rcases hr9 with rfl | rfl | rfl | rfl | rfl | rfl | rfl | rfl
      all_goals first | (exfalso; omega) | skip
      all_goals
        have HQR := Lib.hid hqr
        have HHM := HMM.out
        have hx2 : x < 65536 := hv
      · have hmul : IntKind.i64.wrap ((j : Int) * 4) = 8 * (q : Int) := by rw [IntWalk.i64_in _ (by omega)]; omega
        have hm8 : m = q := by omega
        subst hm8
        have hmb : m ≤ 1000000 := by omega
        clear hqr HHM HMM
        go_wp2_with (at_builtin; go_must (refine wpList_app el8 rfl (.tmp 24) (.tmp 25) rfl w.heap.size (.slice (some ⟨g, 0, none⟩) m c) m (bytesV (rowP 4 l j)) rfl (World.ownsRow.alloc OWN.out _) ⟨wr.heap.size, 0, none⟩ 1 1 _ rfl rfl (news1 wr [_] _) (by simp [Value.oneCell']) (Or.inl (by simp)) (by omega) (by omega) (by have := HM.out.size; simp; omega) ?_; intro g2 c2 w2 hap))
        have hown := hap.out.own
        have hmod : Mod (fun k => w.heap.size ≤ k) w w2 := (HM.out.alloc _).trans (hap.out.mod.mono (fun k _ hk => by simp [Value.ownBlock] at hk; omega))
        have hr2 : (rowP 4 l j ++ [0]).length = m + 1 := by have := HLEN.out; simp; omega
        have hown2 : w2.ownsRow w.heap.size 5 1 (.slice (some ⟨g2, 0, none⟩) (m + 1) c2) (m + 1) (bytesV (rowP 4 l j ++ [0])) := by rw [bytesV_append]; exact hown
        have hput : rowP 4 l (j + 1) = (rowP 4 l j ++ [0]).set m ((rowP 4 l j ++ [0]).getD m 0 ||| UInt8.ofNat (x * 2 ^ (8 - 4 - 0))) := by
          have := HQR.out
          rw [HFS.out, putBit]
          simp only [show j * 4 % 8 = 0 by omega, show j * 4 / 8 = m by omega, reduceIte]
        have HPUT := Lib.hid hput; have HOWN := Lib.hid hown2; have HMOD := Lib.hid hmod; have HR2 := Lib.hid hr2
        clear hown hmod hown2 hput hap HM OWN HFS hmul hr2
        have hyq := own_byte HOWN.out m (by omega)
        have hfq := World.ownsRow.frozenAt HOWN.out m
        generalize rowP 4 l j ++ [0] = R2 at *
        generalize R2.getD m 0 = y at *
        have ht1 : (8 * (m : Int)).tdiv 8 = (m : Int) := by rw [Int.tdiv_eq_ediv_of_nonneg (by omega)]; omega
        have ht2 : (8 * (m : Int)).tmod 8 = 0 := by rw [Int.tmod_eq_emod_of_nonneg (by omega)]; omega
        have hw1 : IntKind.i64.wrap (m : Int) = (m : Int) := IntWalk.i64_in _ (by omega)
        have lw0 : IntKind.i64.wrap 0 = 0 := rfl; have lw1 : IntKind.i64.wrap 1 = 1 := rfl; have lw2 : IntKind.i64.wrap 2 = 2 := rfl; have lw3 : IntKind.i64.wrap 3 = 3 := rfl; have lw4 : IntKind.i64.wrap 4 = 4 := rfl; have lw5 : IntKind.i64.wrap 5 = 5 := rfl; have lw6 : IntKind.i64.wrap 6 = 6 := rfl; have lw7 : IntKind.i64.wrap 7 = 7 := rfl; have lw8 : IntKind.i64.wrap 8 = 8 := rfl
        have lx2 : IntKind.i64.wrap ((x : Int) * 2) = (x : Int) * 2 := IntWalk.i64_in _ (by omega); have lx4 : IntKind.i64.wrap ((x : Int) * 4) = (x : Int) * 4 := IntWalk.i64_in _ (by omega); have lx8 : IntKind.i64.wrap ((x : Int) * 8) = (x : Int) * 8 := IntWalk.i64_in _ (by omega); have lx16 : IntKind.i64.wrap ((x : Int) * 16) = (x : Int) * 16 := IntWalk.i64_in _ (by omega); have lx32 : IntKind.i64.wrap ((x : Int) * 32) = (x : Int) * 32 := IntWalk.i64_in _ (by omega); have lx64 : IntKind.i64.wrap ((x : Int) * 64) = (x : Int) * 64 := IntWalk.i64_in _ (by omega); have lx128 : IntKind.i64.wrap ((x : Int) * 128) = (x : Int) * 128 := IntWalk.i64_in _ (by omega)
        have i0 : (0 : Int) ≤ (m : Int) := by omega
        have i1 : (m : Int) < (m : Int) + 1 := by omega
        go_still_tail 14, (by kernel_rfl)
        change wpList _ _ _ _ _ w2.drew
        clear ht1 ht2 lw0 lw1 lw2 lw3 lw4 lw5 lw6 lw7 lw8 lx2 lx4 lx8 lx16 lx32 lx64 lx128
        have hst := World.ownsRow.stored HOWN.out m (.int .u8 (bits .or .u8 (y.toNat : Int) (IntKind.u8.wrap ((x : Int) * 2 ^ (8 - 4 - 0)))))
        have hst2 := hst.1
        have hmod2 : Mod (fun k => w.heap.size ≤ k) w (w2.drew.setCell ⟨g2, m, none⟩ (.int .u8 (bits .or .u8 (y.toNat : Int) (IntKind.u8.wrap ((x : Int) * 2 ^ (8 - 4 - 0)))))) := HMOD.out.drew.setCell (Or.inl (HOWN.out.lt g2 rfl).1) _
        rw [put_u8, bytesV_set, ← HPUT.out] at hst2
        rw [put_u8] at hmod2
        have hfin : Own8 (w2.setCell ⟨g2, m, none⟩ (.int .u8 (((y ||| UInt8.ofNat (x * 2 ^ (8 - 4 - 0))).toNat : Nat) : Int))) w.heap.size g2 c2 (rowP 4 l (j + 1)) := by
          unfold Own8
          rw [rowP_length 4 (by unfold DepOk; omega)]
          have e2 : ((j + 1) * 4 + 7) / 8 = m + 1 := by have := HQR.out; omega
          rw [e2]
          exact hst2
        have hpu : ((((y ||| UInt8.ofNat (x * 2 ^ (8 - 4 - 0))).toNat : Nat) : Int)) = bits .or .u8 (y.toNat : Int) (IntKind.u8.wrap ((x : Int) * 2 ^ (8 - 4 - 0))) := (put_u8 _ _ _).symm
        rw [hpu] at hfin hmod2
        have HFIN := Lib.hid hfin; have HMOD2 := Lib.hid hmod2
        have HM1 : Hid (m + 1 = ((j + 1) * 4 + 7) / 8) := Lib.hid (by have := HQR.out; omega)
        clear hst hst2 hmod2 hfin hpu HPUT HOWN HMOD
        go_wp2
        go_roundg (n - (j + 1))
        case measure => have := HK.out; omega
        case rel => exact ⟨j + 1, m + 1, g2, c2, by omega, rfl, HM1.out, by go_num, rfl, HFIN.out, HMOD2.out⟩
      · have hmul : IntKind.i64.wrap ((j : Int) * 4) = 8 * (q : Int) + 4 := by rw [IntWalk.i64_in _ (by omega)]; omega
        have hm8 : m = q + 1 := by omega
        subst hm8
        have hmb : q ≤ 1000000 := by omega
        clear hqr HHM HMM
        go_wp2
        have hput : rowP 4 l (j + 1) = (rowP 4 l j).set q ((rowP 4 l j).getD q 0 ||| UInt8.ofNat (x * 2 ^ (8 - 4 - 4))) := by
          have := HQR.out
          rw [HFS.out, putBit]
          rw [show j * 4 % 8 = 4 by omega, show j * 4 / 8 = q by omega, if_neg (by decide)]
        have HPUT := Lib.hid hput; have HOWN := OWN; have HMOD := HM
        clear hput HM OWN HFS hmul
        have hyq := own_byte HOWN.out q (by omega)
        have hfq := World.ownsRow.frozenAt HOWN.out q
        generalize rowP 4 l j = R2 at *
        generalize R2.getD q 0 = y at *
        have ht1 : (8 * (q : Int) + 4).tdiv 8 = (q : Int) := by rw [Int.tdiv_eq_ediv_of_nonneg (by omega)]; omega
        have ht2 : (8 * (q : Int) + 4).tmod 8 = 4 := by rw [Int.tmod_eq_emod_of_nonneg (by omega)]; omega
        have hw1 : IntKind.i64.wrap (q : Int) = (q : Int) := IntWalk.i64_in _ (by omega)
        have lw0 : IntKind.i64.wrap 0 = 0 := rfl; have lw1 : IntKind.i64.wrap 1 = 1 := rfl; have lw2 : IntKind.i64.wrap 2 = 2 := rfl; have lw3 : IntKind.i64.wrap 3 = 3 := rfl; have lw4 : IntKind.i64.wrap 4 = 4 := rfl; have lw5 : IntKind.i64.wrap 5 = 5 := rfl; have lw6 : IntKind.i64.wrap 6 = 6 := rfl; have lw7 : IntKind.i64.wrap 7 = 7 := rfl; have lw8 : IntKind.i64.wrap 8 = 8 := rfl
        have lx2 : IntKind.i64.wrap ((x : Int) * 2) = (x : Int) * 2 := IntWalk.i64_in _ (by omega); have lx4 : IntKind.i64.wrap ((x : Int) * 4) = (x : Int) * 4 := IntWalk.i64_in _ (by omega); have lx8 : IntKind.i64.wrap ((x : Int) * 8) = (x : Int) * 8 := IntWalk.i64_in _ (by omega); have lx16 : IntKind.i64.wrap ((x : Int) * 16) = (x : Int) * 16 := IntWalk.i64_in _ (by omega); have lx32 : IntKind.i64.wrap ((x : Int) * 32) = (x : Int) * 32 := IntWalk.i64_in _ (by omega); have lx64 : IntKind.i64.wrap ((x : Int) * 64) = (x : Int) * 64 := IntWalk.i64_in _ (by omega); have lx128 : IntKind.i64.wrap ((x : Int) * 128) = (x : Int) * 128 := IntWalk.i64_in _ (by omega)
        have i0 : (0 : Int) ≤ (q : Int) := by omega
        have i1 : (q : Int) < (q : Int) + 1 := by omega
        go_still_tail 14, (by kernel_rfl)
        change wpList _ _ _ _ _ wr.drew
        clear ht1 ht2 lw0 lw1 lw2 lw3 lw4 lw5 lw6 lw7 lw8 lx2 lx4 lx8 lx16 lx32 lx64 lx128
        have hst := World.ownsRow.stored HOWN.out q (.int .u8 (bits .or .u8 (y.toNat : Int) (IntKind.u8.wrap (x : Int))))
        have hst2 := hst.1
        have hmod2 : Mod (fun k => w.heap.size ≤ k) w (wr.drew.setCell ⟨g, q, none⟩ (.int .u8 (bits .or .u8 (y.toNat : Int) (IntKind.u8.wrap (x : Int))))) := HMOD.out.drew.setCell (Or.inl (HOWN.out.lt g rfl).1) _
        rw [put_u80 _ _ (8 - 4 - 4) rfl, bytesV_set, ← HPUT.out] at hst2
        rw [put_u80 _ _ (8 - 4 - 4) rfl] at hmod2
        have hfin : Own8 (wr.setCell ⟨g, q, none⟩ (.int .u8 (((y ||| UInt8.ofNat (x * 2 ^ (8 - 4 - 4))).toNat : Nat) : Int))) w.heap.size g c (rowP 4 l (j + 1)) := by
          unfold Own8
          rw [rowP_length 4 (by unfold DepOk; omega)]
          have e2 : ((j + 1) * 4 + 7) / 8 = q + 1 := by have := HQR.out; omega
          rw [e2]
          exact hst2
        have hpu : ((((y ||| UInt8.ofNat (x * 2 ^ (8 - 4 - 4))).toNat : Nat) : Int)) = bits .or .u8 (y.toNat : Int) (IntKind.u8.wrap (x : Int)) := (put_u80 _ _ (8 - 4 - 4) rfl).symm
        rw [hpu] at hfin hmod2
        have HFIN := Lib.hid hfin; have HMOD2 := Lib.hid hmod2
        have HM1 : Hid (q + 1 = ((j + 1) * 4 + 7) / 8) := Lib.hid (by have := HQR.out; omega)
        clear hst hst2 hmod2 hfin hpu HPUT HOWN HMOD
        go_wp2
        go_roundg (n - (j + 1))
        case measure => have := HK.out; omega
        case rel => exact ⟨j + 1, q + 1, g, c, by omega, rfl, HM1.out, by go_num, rfl, HFIN.out, HMOD2.out⟩
    · obtain rfl : j = n := by omega
      have HO := Lib.hid own; have HM := Lib.hid mm; have HMM := Lib.hid hm
      clear own mm hkk hlen hm
      go_wp2
      go_ret
      refine ⟨g, c, by rw [HMM.out]; rfl, ?_, (Mod.refl (fun _ => False) w).then HM.out (fun k hk hs => by omega)⟩
      unfold rowL
      rw [HL.out]
      exact HO.out
end Go.Proofs.YtnpkgmgedgcjmaaGreatDoor
