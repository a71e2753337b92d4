/- The reference's packing: a block of bytes as they stand. The reference's packing. No conditions but those in each theorem's own binders. -/
import Derived.Test.YtnpkgmgedgcjmaaGreatDoorCE26
namespace Go.Proofs.YtnpkgmgedgcjmaaGreatDoor
set_option linter.unusedVariables false
set_option linter.unusedSimpArgs false
open Go.RowKit Go.Png

set_option maxRecDepth 100000 in
set_option maxHeartbeats 400000 in
theorem pack_sto (w : World) (W base : Nat) (bs : List Bool) (a : Option Addr) (n c : Nat) (l : List UInt8) (p q sz ways : Nat) (fin : Bool) (h : WrAt w W base noF bs) (hbase : base ≤ w.heap.size) (hl : l.length = n) (hs : ∀ w', Mod (Off base noF) w w' → SlB w' a l) (hpq : p < q) (hq : q ≤ n)
    (hz1 : 1 ≤ sz) (hz2 : sz ≤ 60000) (hways : ways ≤ 255) (hn : n ≤ 1000000) (hbs : bs.length ≤ 132 * p) (hbit : ways.testBit (p / sz % 8) = false) (hsto : q - p ≤ 60000) (hnc : n ≤ c)
    (s3 s4 s5 s6 s11 s13 s14 s15 s16 s17 s94 s95 s96 s97 s98 s99 s100 s101 s102 s103 : Value) (u12 u18 u19 u20 u21 u22 u23 u24 u25 u26 u27 u28 u29 u30 u31 u32 u33 u34 u35 u36 u37 u38 u39 u40 u41 u42 u43 u44 u45 u46 u47 u48 u49 u50 u51 u52 u53 u54 u55 u56 u57 u58 u59 u60 u61 u62 u63 u64 u65 u66 u67 u68 u69 u70 u71 u72 u73 u74 u75 u76 u77 u78 u79 u80 u81 u82 u83 u84 u85 u86 u87 u88 u89 u90 u91 u92 u93 : Value) (Q : Exit → Act → World → Prop)
    (hQ : ∀ e w' (u9 u10 u12 u18 u19 u20 u21 u22 u23 u24 u25 u26 u27 u28 u29 u30 u31 u32 u33 u34 u35 u36 u37 u38 u39 u40 u41 u42 u43 u44 u45 u46 u47 u48 u49 u50 u51 u52 u53 u54 u55 u56 u57 u58 u59 u60 u61 u62 u63 u64 u65 u66 u67 u68 u69 u70 u71 u72 u73 u74 u75 u76 u77 u78 u79 u80 u81 u82 u83 u84 u85 u86 u87 u88 u89 u90 u91 u92 u93 : Value), (e = .normal ∨ e = .exit 1) → (∃ x, Blk l fin bs.length p q x ∧ WrAt w' W base noF (bs ++ x)) → Mod (Off base noF) w w' →
       Q e ⟨#[.slice a n c, .int .i64 sz, .int .i64 ways, s3, s4, s5, s6, .pointer (some ⟨W, 0, none⟩), .int .i64 p, u9, u10, s11, u12, s13, s14, s15, s16, s17, u18, u19, u20, u21, u22, u23, u24, u25, u26, u27, u28, u29, u30, u31, u32, u33, u34, u35, u36, u37, u38, u39, u40, u41, u42, u43, u44, u45, u46, u47, u48, u49, u50, u51, u52, u53, u54, u55, u56, u57, u58, u59, u60, u61, u62, u63, u64, u65, u66, u67, u68, u69, u70, u71, u72, u73, u74, u75, u76, u77, u78, u79, u80, u81, u82, u83, u84, u85, u86, u87, u88, u89, u90, u91, u92, u93, s94, s95, s96, s97, s98, s99, s100, s101, s102, s103], []⟩ w') :
    Code.wp Tryz.prog (navc [1, 1, 1, 0, 1, 0, 0, 1, 0, 0, 1, 1, 1] (textOf Tryz.f55)) Q
      ⟨#[.slice a n c, .int .i64 sz, .int .i64 ways, s3, s4, s5, s6, .pointer (some ⟨W, 0, none⟩), .int .i64 p, .int .i64 q, .int .i64 (fin.toNat : Nat), s11, u12, s13, s14, s15, s16, s17, u18, u19, u20, u21, u22, u23, u24, u25, u26, u27, u28, u29, u30, u31, u32, u33, u34, u35, u36, u37, u38, u39, u40, u41, u42, u43, u44, u45, u46, u47, u48, u49, u50, u51, u52, u53, u54, u55, u56, u57, u58, u59, u60, u61, u62, u63, u64, u65, u66, u67, u68, u69, u70, u71, u72, u73, u74, u75, u76, u77, u78, u79, u80, u81, u82, u83, u84, u85, u86, u87, u88, u89, u90, u91, u92, u93, s94, s95, s96, s97, s98, s99, s100, s101, s102, s103], []⟩ w := by
  conv => arg 2; whnf
  dsimp only
  have HQ := Lib.hid hQ; have H := Lib.hid h; have HS := Lib.hid hs; have HL := Lib.hid hl
  clear hQ h hs hl
  have hone := wrOne w W base noF bs fin H.out hbase (by omega)
  have HONE := Lib.hid hone
  clear hone
  go_upto_region 11 with (go_at_call 68; refine HONE.out.mono ?_; rintro e w1 ⟨rfl, hw1, m1⟩)
  have HW1 := Lib.hid hw1; have M1 := Lib.hid m1
  have hdz : p / sz ≤ p := Nat.div_le_self _ _
  have t1 : (p : Int).tdiv (sz : Int) = ((p / sz : Nat) : Int) := (Int.ofNat_tdiv p sz).symm
  have t2 : ((p / sz : Nat) : Int).tmod 8 = ((p / sz % 8 : Nat) : Int) := (Int.ofNat_tmod (p / sz) 8).symm
  have hk8 : p / sz % 8 < 8 := Nat.mod_lt _ (by decide)
  have t3 : bits .and .i64 ((ways : Int) / 2 ^ (p / sz % 8)) 1 = 0 := by rw [bit_and ways _ (by omega), hbit]; rfl
  clear hw1 m1 HONE hbit
  generalize p / sz = d at *
  generalize d % 8 = k at *
  go_upto_region 14 with fail
  clear t1 t2 t3 hk8 hdz
  have hmn := wrMany w1 W base noF (bs ++ [fin]) 0 2 HW1.out (by have := M1.out.size; omega) (by simp; omega) (by omega) (by omega)
  have HMN := Lib.hid hmn
  clear hmn
  go_upto_region 15 with (go_at_call 69; refine HMN.out.mono ?_; rintro e w2 ⟨rfl, hw2, m2⟩)
  have c1 := hw2.at_
  have hlen : (bs ++ [fin] ++ lsb 0 2).length = bs.length + 3 := by simp
  rw [hlen] at c1
  have HW2 := Lib.hid hw2; have M2 := Lib.hid (M1.out.trans m2)
  have HLEN := Lib.hid hlen
  clear hw2 m2 HMN HW1 M1 hlen
  generalize hN : bs.length + 3 = N at *
  have hNb : N ≤ 200000000 := by omega
  have HN := Lib.hid hN
  clear hN
  have t4 : (N : Int).tmod 8 = ((N % 8 : Nat) : Int) := (Int.ofNat_tmod N 8).symm
  have t5 : (8 : Int) - ((N % 8 : Nat) : Int) = ((8 - N % 8 : Nat) : Int) := by omega
  have t6 : ((8 - N % 8 : Nat) : Int).tmod 8 = (((8 - N % 8) % 8 : Nat) : Int) := (Int.ofNat_tmod (8 - N % 8) 8).symm
  have hp8 : (8 - N % 8) % 8 < 8 := Nat.mod_lt _ (by decide)
  have hpad := wrMany w2 W base noF _ 0 ((8 - N % 8) % 8) HW2.out (by have := M2.out.size; omega) (by rw [HLEN.out]; omega) (by omega) (by omega)
  have HPAD := Lib.hid hpad
  clear hpad
  clear t4 t5 t6
  go_wp2_with (fail)
  have e8 : (-((N : Int) % 8) % 8) = (((8 - N % 8) % 8 : Nat) : Int) := by omega
  rw [e8]
  refine HPAD.out.mono ?_
  rintro e w3 ⟨rfl, hw3, m3⟩
  clear c1 e8
  have hl3 : (bs ++ [fin] ++ lsb 0 2 ++ lsb 0 ((8 - N % 8) % 8)).length ≤ N + 8 := by rw [List.length_append, HLEN.out]; simp; omega
  have HW3 := Lib.hid hw3; have M3 := Lib.hid (M2.out.trans m3)
  have HL3 := Lib.hid hl3
  have hb3 : bs ++ [fin] ++ lsb 0 2 ++ lsb 0 ((8 - N % 8) % 8) = bs ++ [fin] ++ lsb 0 2 ++ lsb 0 ((8 - N % 8) % 8) := rfl
  clear hw3 m3 hl3 HPAD HW2 M2
  have e1 : (q : Int) - (p : Int) = ((q - p : Nat) : Int) := by omega
  have e2 : (65535 : Int) - ((q - p : Nat) : Int) = ((65535 - (q - p) : Nat) : Int) := by omega
  generalize hb3' : bs ++ [fin] ++ lsb 0 2 ++ lsb 0 ((8 - N % 8) % 8) = b3 at *
  have HB3 := Lib.hid hb3'
  clear hb3 hb3'
  have h16 := wrMany w3 W base noF b3 (q - p) 16 HW3.out (by have := M3.out.size; omega) (by have := HL3.out; omega) (by omega) (by omega)
  have H16 := Lib.hid h16
  clear h16
  go_wp2_with (fail)
  refine H16.out.mono ?_
  rintro e w4 ⟨rfl, hw4, m4⟩
  have HW4 := Lib.hid hw4; have M4 := Lib.hid (M3.out.trans m4)
  clear hw4 m4 H16 HW3 M3
  have h16 := wrMany w4 W base noF (b3 ++ lsb (q - p) 16) (65535 - (q - p)) 16 HW4.out (by have := M4.out.size; omega) (by have := HL3.out; simp; omega) (by omega) (by omega)
  have H16 := Lib.hid h16
  clear h16
  go_wp2_with (fail)
  refine H16.out.mono ?_
  rintro e w5 ⟨rfl, hw5, m5⟩
  have HW5 := Lib.hid hw5; have M5 := Lib.hid (M4.out.trans m5)
  have hl5 : (b3 ++ lsb (q - p) 16 ++ lsb (65535 - (q - p)) 16).length ≤ N + 40 := by have := HL3.out; simp; omega
  have HL5 := Lib.hid hl5
  clear hw5 m5 hl5 H16 HW4 M4
  generalize hb5 : b3 ++ lsb (q - p) 16 ++ lsb (65535 - (q - p)) 16 = b5 at *
  obtain ⟨ab, ao, rfl, _⟩ := (HS.out w (Mod.refl _ w)).some p (by have := HL.out; omega)
  have HB5 := Lib.hid hb5
  clear hb5
  have hqc : q ≤ c := by omega
  have hpq2 : p ≤ q := by omega
  have hcp : ¬ c = p := by omega
  go_wp2_with (fail)
  go_wp2
  go_loopg [12, 85] (q - p - 0) (fun k v12 v85 wr => ∃ i : Nat, i ≤ q - p ∧ k = q - p - i ∧ v85 = .int .i64 i ∧ WrAt wr W base noF (b5 ++ ((cutL l p q).take i).flatMap (fun v => lsb v.toNat 8)) ∧ Mod (Off base noF) w wr)
  case atStart => exact ⟨0, by omega, rfl, rfl, by simpa using HW5.out, M5.out⟩
  case round =>
    obtain ⟨i, hi, hk, rfl, hw, mm⟩ := hrel
    have HK := Lib.hid hk
    clear hk
    have hcl : (cutL l p q).length = q - p := cutL_length (by omega) (by have := HL.out; omega)
    have HCL := Lib.hid hcl
    clear hcl
    by_cases hlt : i < q - p
    · obtain ⟨ab', ao', he, hb⟩ := (HS.out wr mm).some (p + i) (by have := HL.out; omega)
      cases he
      have cc := bytes_at hb (p + i) (by have := HL.out; omega)
      rw [← Nat.add_assoc] at cc
      have hx : (cutL l p q)[i]'(by have := HCL.out; omega) = at_ l (p + i) := by
        unfold cutL at_
        rw [List.getElem_take, List.getElem_drop, List.getD_eq_getElem?_getD, List.getElem?_eq_getElem (by have := HL.out; omega)]; rfl
      have hbs2 : b5 ++ ((cutL l p q).take (i + 1)).flatMap (fun v => lsb v.toNat 8) = b5 ++ ((cutL l p q).take i).flatMap (fun v => lsb v.toNat 8) ++ lsb (at_ l (p + i)).toNat 8 := by
        rw [← List.take_append_getElem (by have := HCL.out; omega : i < (cutL l p q).length), List.flatMap_append, hx]
        simp
      have hlb : (((cutL l p q).take i).flatMap (fun v => lsb v.toNat 8)).length ≤ 8 * (q - p) := by
        rw [flat8_length, List.length_take]; omega
      have hm8 := wrMany wr W base noF _ (at_ l (p + i)).toNat 8 hw (by have := mm.size; omega) (by have := HL5.out; rw [List.length_append]; omega) (by have := (at_ l (p + i)).toNat_lt; omega) (by omega)
      rw [← hbs2] at hm8
      have xb := (at_ l (p + i)).toNat_lt
      have HM8 := Lib.hid hm8; have MM := Lib.hid mm
      clear hm8 hbs2 hlb hx hb mm hw
      generalize (at_ l (p + i)).toNat = x at *
      have g1 : (i : Int) < ((q - p : Nat) : Int) := by omega
      go_wp2_with (fail)
      refine HM8.out.mono ?_
      rintro e w6 ⟨rfl, hw6, m6⟩
      have HW6 := Lib.hid hw6; have M6 := Lib.hid (MM.out.trans m6)
      clear hw6 m6 HM8
      go_wp2
      go_roundg (q - p - (i + 1))
      case measure => have := HK.out; omega
      case rel => exact ⟨i + 1, by omega, rfl, by go_num, HW6.out, M6.out⟩
    · obtain rfl : i = q - p := by omega
      have g1 : ¬ ((q - p : Nat) : Int) < ((q - p : Nat) : Int) := by omega
      rw [List.take_of_length_le (by have := HCL.out; omega), ← HB5.out] at hw
      have hfin : bs ++ stoB fin bs.length (cutL l p q) = bs ++ [fin] ++ lsb 0 2 ++ lsb 0 ((8 - N % 8) % 8) ++ lsb (q - p) 16 ++ lsb (65535 - (q - p)) 16 ++ (cutL l p q).flatMap (fun v => lsb v.toNat 8) := by
        unfold stoB
        rw [HCL.out, HN.out]
        simp only [List.append_assoc]
      rw [← HB3.out] at hw
      rw [← hfin] at hw
      have HW := Lib.hid hw; have MM := Lib.hid mm
      clear hw mm hfin
      go_wp2
      exact HQ.out _ _ _ _ _ _ _ _ _ _ _ _ _ _ _ _ _ _ _ _ _ _ _ _ _ _ _ _ _ _ _ _ _ _ _ _ _ _ _ _ _ _ _ _ _ _ _ _ _ _ _ _ _ _ _ _ _ _ _ _ _ _ _ _ _ _ _ _ _ _ _ _ _ _ _ _ _ _ _ _ _ (Or.inl rfl) ⟨_, .sto hsto (by have := HL.out; omega), HW.out⟩ MM.out
end Go.Proofs.YtnpkgmgedgcjmaaGreatDoor
namespace Go.Proofs.YtnpkgmgedgcjmaaGreatDoor
set_option linter.unusedVariables false
set_option linter.unusedSimpArgs false
open Go.RowKit Go.Png

/-- What packing gives. -/
def packedL (l : List UInt8) (bs : List Bool) : List UInt8 := [120, 1] ++ packL bs ++ four (adler l)
theorem blks_pos {l : List UInt8} {p : Nat} {bs : List Bool} (h : Blks l p bs true) : 0 < bs.length ∧ p = l.length := by
  generalize hf : true = f at h
  cases h with
  | nil => cases hf
  | snoc h hpq hq hb =>
    refine ⟨?_, by simpa using hf.symm⟩
    cases hb with
    | sym ts _ => simp [symBk]; omega
    | sto _ _ => simp [stoB]; omega

set_option maxRecDepth 100000 in
set_option maxHeartbeats 1000000 in
theorem pack_end (w : World) (W base : Nat) (bs : List Bool) (a : Option Addr) (n c : Nat) (l : List UInt8) (h : WrAt w W base noF bs) (hbase : base ≤ w.heap.size) (hl : l.length = n) (hs : ∀ w', Mod (Off base noF) w w' → SlB w' a l) (hn : n ≤ 1000000) (hb0 : 0 < bs.length) (hb1 : bs.length ≤ 132000000)
    (u1 u2 u3 u4 u5 u8 u9 u10 u11 u12 u13 u14 u15 u16 u17 u18 u19 u20 u21 u22 u23 u24 u25 u26 u27 u28 u29 u30 u31 u32 u33 u34 u35 u36 u37 u38 u39 u40 u41 u42 u43 u44 u45 u46 u47 u48 u49 u50 u51 u52 u53 u54 u55 u56 u57 u58 u59 u60 u61 u62 u63 u64 u65 u66 u67 u68 u69 u70 u71 u72 u73 u74 u75 u76 u77 u78 u79 u80 u81 u82 u83 u84 u85 u86 u87 u88 u89 u90 u91 u92 u93 u94 u95 u96 u97 u98 u99 u100 u101 u102 u103 : Value) (R : Ending → World → Prop)
    (hR : ∀ g c' w', Own8 w' base g c' (packedL l bs) → Mod (Off base noF) w w' → R (.returned (.slice (some ⟨g, 0, none⟩) (packedL l bs).length c')) w') :
    Code.wp Tryz.prog (navc [1, 1, 1, 1] (textOf Tryz.f55)) (bodyPost Tryz.prog Tryz.f55 R)
      ⟨#[.slice a n c, u1, u2, u3, u4, u5, .slice none 0 0, .pointer (some ⟨W, 0, none⟩), u8, u9, u10, u11, u12, u13, u14, u15, u16, u17, u18, u19, u20, u21, u22, u23, u24, u25, u26, u27, u28, u29, u30, u31, u32, u33, u34, u35, u36, u37, u38, u39, u40, u41, u42, u43, u44, u45, u46, u47, u48, u49, u50, u51, u52, u53, u54, u55, u56, u57, u58, u59, u60, u61, u62, u63, u64, u65, u66, u67, u68, u69, u70, u71, u72, u73, u74, u75, u76, u77, u78, u79, u80, u81, u82, u83, u84, u85, u86, u87, u88, u89, u90, u91, u92, u93, u94, u95, u96, u97, u98, u99, u100, u101, u102, u103], []⟩ w := by
  conv => arg 2; whnf
  obtain ⟨v, c0, own, hv, _⟩ := h.out
  obtain ⟨g, cap, hvv, hgb, hgl⟩ := World.ownsRow.form own (by omega)
  subst hvv
  have hpl := packL_length bs
  have hSl : SlB w (some ⟨g, 0, none⟩) (packL bs) := by
    refine Or.inr ⟨g, 0, rfl, fun i hi => ?_⟩
    have := World.ownsRow.cellAt own i (by omega)
    rw [Nat.zero_add, this, List.getElem?_eq_getElem (by simpa using hi), bytesV_get (packL bs) i hi]
  have hWlt := lt_of_cell c0
  have hown : Own8 (w.alloc (.cells #[.int .u8 120, .int .u8 1] 5)) w.heap.size w.heap.size 2 [120, 1] := World.ownsRow_lit (size := 1) w (bytesV [120, 1]).toArray 2 (Nat.le_refl _) (by unfold maxLen; omega) rfl
  have k0 : (w.alloc (.cells #[.int .u8 120, .int .u8 1] 5)).cell? ⟨W, 0, none⟩ = some (.slice (some ⟨g, 0, none⟩) ((bs.length + 7) / 8) cap) := (((Mod.refl (fun _ => False) w).alloc _).cell hWlt id 0).trans c0
  have OWN := Lib.hid (hown.mono hbase); have SL := Lib.hid (hSl.news ((Mod.refl (fun _ => False) w).alloc (.cells #[.int .u8 120, .int .u8 1] 5))); have HPL := Lib.hid hpl; have HR := Lib.hid hR; have HS := Lib.hid hs; have HL := Lib.hid hl
  clear hown hSl hpl own hv c0 hR hs hl h
  generalize hm : (bs.length + 7) / 8 = m at *
  have hmb : m ≤ 16500001 := by omega
  have hm0 : 0 < m := by omega
  clear hm
  go_wp2_with (at_builtin; go_must (refine wpList_app8 rfl (.tmp 94) (.tmp 98) rfl base w.heap.size 2 2 [120, 1] rfl rfl OWN.out (some ⟨g, 0, none⟩) m cap (packL bs) HPL.out SL.out rfl (fun h => absurd h (by omega)) (by omega) (by simp; omega) ?_; intro g2 c2 w2 hown2 hm2 hg2))
  have m2 : Mod (Off base noF) w w2 := ((Mod.refl _ w).alloc _).then hm2.out (fun k _ hk => ⟨by omega, id⟩)
  have M2 := Lib.hid m2; have HAL := Lib.hid (adler_lt l)
  have hfl2 : ([120, 1] ++ packL bs : List UInt8).length = 2 + m := by have := HPL.out; simp; omega
  have HFL2 := Lib.hid hfl2
  have hpk : packedL l bs = ([120, 1] ++ packL bs) ++ four (adler l) := rfl
  have hpkl : (packedL l bs).length = 2 + m + 4 := by rw [hpk, List.length_append, hfl2]; rfl
  have HPK := Lib.hid hpk; have HPKL := Lib.hid hpkl
  clear m2 hm2 OWN SL k0 hfl2 hpk hpkl
  refine (specAdler w2 a n c l HL.out (by omega) (HS.out _ M2.out)).mono ?_
  rintro e w2 ⟨rfl, rfl⟩
  generalize adler l = al at *
  go_wp2_with (fail)
  refine (specFour w2 al HAL.out).mono ?_
  rintro e w4 ⟨g4, rfl, own4, m4⟩
  have hown4 := hown2.out.mod m4 id
  have M4 := Lib.hid (M2.out.trans (m4.mono (fun k _ h => h.elim))); have OWN4 := Lib.hid hown4; have S4 := Lib.hid own4.slb
  clear m4 hown4 own4 hown2 M2
  go_wp2_with (at_builtin; go_must (refine wpList_app8 rfl (.tmp 99) (.tmp 102) rfl base g2 (2 + m) c2 ([120, 1] ++ packL bs) HFL2.out rfl OWN4.out (some ⟨g4, 0, none⟩) 4 4 (four al) rfl S4.out rfl (fun h => absurd h (by decide)) (by omega) (by have := M4.out.size; omega) ?_; intro g5 c5 w5 hown5 hm5 hg5))
  have hb := OWN4.out.base
  have h5 := HR.out g5 c5 w5 (by rw [HPK.out]; exact hown5.out) (M4.out.then hm5.out (fun k _ hk => ⟨by omega, id⟩))
  rw [HPKL.out] at h5
  exact h5
end Go.Proofs.YtnpkgmgedgcjmaaGreatDoor
