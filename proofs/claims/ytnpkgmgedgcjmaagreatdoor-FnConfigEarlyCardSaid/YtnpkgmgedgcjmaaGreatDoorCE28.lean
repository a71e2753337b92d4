/- The reference's packing: the whole. No conditions but those in each theorem's own binders. -/
import Derived.Test.YtnpkgmgedgcjmaaGreatDoorCE27
namespace Go.Proofs.YtnpkgmgedgcjmaaGreatDoor
set_option linter.unusedVariables false
set_option linter.unusedSimpArgs false
open Go.RowKit Go.Png

set_option maxRecDepth 100000 in
set_option maxHeartbeats 1000000 in
theorem pack_loop (w : World) (W base : Nat) (a : Option Addr) (n c : Nat) (l : List UInt8) (sz ways : Nat) (h : WrAt w W base noF []) (hbase : base ≤ w.heap.size) (hl : l.length = n) (hs : ∀ w', Mod (Off base noF) w w' → SlB w' a l) (hn0 : 0 < n) (hn : n ≤ 1000000) (hnc : n ≤ c)
    (hz1 : 1 ≤ sz) (hz2 : sz ≤ 60000) (hways : ways ≤ 255)
    (u3 u4 u5 u9 u10 u11 u12 u13 u14 u15 u16 u17 u18 u19 u20 u21 u22 u23 u24 u25 u26 u27 u28 u29 u30 u31 u32 u33 u34 u35 u36 u37 u38 u39 u40 u41 u42 u43 u44 u45 u46 u47 u48 u49 u50 u51 u52 u53 u54 u55 u56 u57 u58 u59 u60 u61 u62 u63 u64 u65 u66 u67 u68 u69 u70 u71 u72 u73 u74 u75 u76 u77 u78 u79 u80 u81 u82 u83 u84 u85 u86 u87 u88 u89 u90 u91 u92 u93 u94 u95 u96 u97 u98 u99 u100 u101 u102 u103 : Value) (Q : Exit → Act → World → Prop)
    (hQ : ∀ w' bs (u1 u2 u3 u4 u5 u8 u9 u10 u11 u12 u13 u14 u15 u16 u17 u18 u19 u20 u21 u22 u23 u24 u25 u26 u27 u28 u29 u30 u31 u32 u33 u34 u35 u36 u37 u38 u39 u40 u41 u42 u43 u44 u45 u46 u47 u48 u49 u50 u51 u52 u53 u54 u55 u56 u57 u58 u59 u60 u61 u62 u63 u64 u65 u66 u67 u68 u69 u70 u71 u72 u73 u74 u75 u76 u77 u78 u79 u80 u81 u82 u83 u84 u85 u86 u87 u88 u89 u90 u91 u92 u93 u94 u95 u96 u97 u98 u99 u100 u101 u102 u103 : Value), Blks l n bs true → bs.length ≤ 132 * n → WrAt w' W base noF bs → Mod (Off base noF) w w' →
       Q .normal ⟨#[.slice a n c, u1, u2, u3, u4, u5, .slice none 0 0, .pointer (some ⟨W, 0, none⟩), u8, u9, u10, u11, u12, u13, u14, u15, u16, u17, u18, u19, u20, u21, u22, u23, u24, u25, u26, u27, u28, u29, u30, u31, u32, u33, u34, u35, u36, u37, u38, u39, u40, u41, u42, u43, u44, u45, u46, u47, u48, u49, u50, u51, u52, u53, u54, u55, u56, u57, u58, u59, u60, u61, u62, u63, u64, u65, u66, u67, u68, u69, u70, u71, u72, u73, u74, u75, u76, u77, u78, u79, u80, u81, u82, u83, u84, u85, u86, u87, u88, u89, u90, u91, u92, u93, u94, u95, u96, u97, u98, u99, u100, u101, u102, u103], []⟩ w') :
    Code.wp Tryz.prog (navc [1, 1, 1, 0, 1] (textOf Tryz.f55)) Q
      ⟨#[.slice a n c, .int .i64 sz, .int .i64 ways, u3, u4, u5, .slice none 0 0, .pointer (some ⟨W, 0, none⟩), .int .i64 0, u9, u10, u11, u12, u13, u14, u15, u16, u17, u18, u19, u20, u21, u22, u23, u24, u25, u26, u27, u28, u29, u30, u31, u32, u33, u34, u35, u36, u37, u38, u39, u40, u41, u42, u43, u44, u45, u46, u47, u48, u49, u50, u51, u52, u53, u54, u55, u56, u57, u58, u59, u60, u61, u62, u63, u64, u65, u66, u67, u68, u69, u70, u71, u72, u73, u74, u75, u76, u77, u78, u79, u80, u81, u82, u83, u84, u85, u86, u87, u88, u89, u90, u91, u92, u93, u94, u95, u96, u97, u98, u99, u100, u101, u102, u103], []⟩ w := by
  conv => arg 2; whnf
  dsimp only
  have HQ := Lib.hid hQ; have H := Lib.hid h; have HS := Lib.hid hs; have HL := Lib.hid hl
  clear hQ h hs hl
  go_wp2
  go_loopg [8, 9, 10, 12] (n - 0) (fun k v8 _ _ _ wr => ∃ p : Nat, ∃ bs : List Bool, k = n - p ∧ v8 = .int .i64 p ∧ p ≤ 1060000 ∧ ((p < n ∧ Blks l p bs false ∧ bs.length ≤ 132 * p) ∨ (n ≤ p ∧ Blks l n bs true ∧ bs.length ≤ 132 * n)) ∧ WrAt wr W base noF bs ∧ Mod (Off base noF) w wr)
  case atStart => exact ⟨0, [], rfl, rfl, by omega, Or.inl ⟨hn0, .nil, by simp⟩, H.out, Mod.refl _ _⟩
  case round =>
    obtain ⟨p, bs, hk, rfl, hpb, hor, hw, mm⟩ := hrel
    have HK := Lib.hid hk; have HW := Lib.hid hw; have MM := Lib.hid mm
    clear hk hw mm
    by_cases hlt : p < n
    · have hbl : Blks l p bs false ∧ bs.length ≤ 132 * p := by
        rcases hor with h | h
        · exact h.2
        · omega
      obtain ⟨hbk, hbl⟩ := hbl
      have HBK := Lib.hid hbk
      clear hor hbk
      obtain ⟨q, hq⟩ : ∃ q, q = p + sz := ⟨_, rfl⟩
      have e1 : (p : Int) + (sz : Int) = (q : Int) := by omega
      have hqb : q ≤ 1120000 := by omega
      have HQE := Lib.hid hq
      clear hq
      have hqb2 : q ≤ 1060000 := by have := HQE.out; omega
      by_cases hle : q < n
      · have e2 : (q : Int) ≤ (n : Int) := by omega
        have e3 : ((q : Int) == (n : Int)) = false := by simp; omega
        cases hpz : ((p : Int) == 0)
        all_goals
          go_upto_if 38 with fail
          rename_i K hK
          have hK2 := fun (a : Act) (w : World) (h : Hid _) => hK a w h.out
          clear hK
          go_wp2
          refine Lib.hid ?_
          cases hbit : ways.testBit (p / sz % 8)
          · refine pack_sto wr W base bs a n c l p q sz ways false HW.out (by have := MM.out.size; omega) HL.out (fun w' m => HS.out w' (MM.out.trans m)) (by have := HQE.out; omega) (by omega) hz1 hz2 hways hn hbl hbit (by have := HQE.out; omega) hnc _ _ _ _ _ _ _ _ _ _ _ _ _ _ _ _ _ _ _ _ _ _ _ _ _ _ _ _ _ _ _ _ _ _ _ _ _ _ _ _ _ _ _ _ _ _ _ _ _ _ _ _ _ _ _ _ _ _ _ _ _ _ _ _ _ _ _ _ _ _ _ _ _ _ _ _ _ _ _ _ _ _ _ _ _ _ _ _ _ _ _ _ _ _ _ _ _ _ ?_
            intro e w2 _ _ _ _ _ _ _ _ _ _ _ _ _ _ _ _ _ _ _ _ _ _ _ _ _ _ _ _ _ _ _ _ _ _ _ _ _ _ _ _ _ _ _ _ _ _ _ _ _ _ _ _ _ _ _ _ _ _ _ _ _ _ _ _ _ _ _ _ _ _ _ _ _ _ _ _ _ _ _ he hx m2
            obtain ⟨x, hb, hw2⟩ := hx
            have hrel : (q < n ∧ Blks l q (bs ++ x) false ∧ (bs ++ x).length ≤ 132 * q) ∨ (n ≤ q ∧ Blks l n (bs ++ x) true ∧ (bs ++ x).length ≤ 132 * n) := by
              have hbd := blk_bd hb (by have := HQE.out; omega)
              have hd : decide (q = l.length) = false := decide_eq_false (by have := HL.out; omega)
              have hb2 := Blks.snoc HBK.out (by have := HQE.out; omega) (by have := HL.out; omega) (hd ▸ hb)
              rw [hd] at hb2
              exact Or.inl ⟨hle, hb2, by have := HQE.out; simp; omega⟩
            have HRL := Lib.hid hrel; have HW2 := Lib.hid hw2; have M2 := Lib.hid (MM.out.trans m2)
            clear hrel hw2 m2 hb
            rcases he with rfl | rfl
            all_goals
              go_wp2
              go_roundg (n - q)
              case measure => have := HK.out; have := HQE.out; omega
              case rel => exact ⟨q, bs ++ x, rfl, rfl, hqb2, HRL.out, HW2.out, M2.out⟩
          · refine pack_sym wr W base bs a n c l p q sz ways false HW.out (by have := MM.out.size; omega) HL.out (fun w' m => HS.out w' (MM.out.trans m)) (by have := HQE.out; omega) (by omega) hz1 hz2 hways hn hbl hbit _ _ _ _ _ _ _ _ _ _ _ _ _ _ _ _ _ _ _ _ _ _ _ _ _ _ _ _ _ _ _ _ _ _ _ _ _ _ _ _ _ _ _ _ _ _ _ _ _ _ _ _ _ _ _ _ _ _ _ _ _ _ _ _ _ _ _ _ _ _ _ _ _ _ _ _ _ _ _ _ _ _ _ _ _ _ _ _ _ _ _ _ _ _ _ _ _ _ ?_
            intro e w2 _ _ _ _ _ _ _ _ _ _ _ _ _ _ _ _ _ _ _ _ _ _ _ _ _ _ _ _ _ _ _ _ _ _ _ _ _ _ _ _ _ _ _ _ _ _ _ _ _ _ _ _ _ _ _ _ _ _ _ _ _ _ _ _ _ _ _ _ _ _ _ _ _ _ _ _ _ _ _ he hx m2
            obtain ⟨x, hb, hw2⟩ := hx
            have hrel : (q < n ∧ Blks l q (bs ++ x) false ∧ (bs ++ x).length ≤ 132 * q) ∨ (n ≤ q ∧ Blks l n (bs ++ x) true ∧ (bs ++ x).length ≤ 132 * n) := by
              have hbd := blk_bd hb (by have := HQE.out; omega)
              have hd : decide (q = l.length) = false := decide_eq_false (by have := HL.out; omega)
              have hb2 := Blks.snoc HBK.out (by have := HQE.out; omega) (by have := HL.out; omega) (hd ▸ hb)
              rw [hd] at hb2
              exact Or.inl ⟨hle, hb2, by have := HQE.out; simp; omega⟩
            have HRL := Lib.hid hrel; have HW2 := Lib.hid hw2; have M2 := Lib.hid (MM.out.trans m2)
            clear hrel hw2 m2 hb
            rcases he with rfl | rfl
            all_goals
              go_wp2
              go_roundg (n - q)
              case measure => have := HK.out; have := HQE.out; omega
              case rel => exact ⟨q, bs ++ x, rfl, rfl, hqb2, HRL.out, HW2.out, M2.out⟩
      · by_cases heq : q = n
        · have HEQ := Lib.hid heq
          have e2 : (q : Int) ≤ (n : Int) := by omega
          have e3 : ((q : Int) == (n : Int)) = true := by simp; omega
          clear heq
          cases hpz : ((p : Int) == 0)
          all_goals
            go_upto_if 38 with fail
            rename_i K hK
            have hK2 := fun (a : Act) (w : World) (h : Hid _) => hK a w h.out
            clear hK
            go_wp2
            refine Lib.hid ?_
            cases hbit : ways.testBit (p / sz % 8)
            · refine pack_sto wr W base bs a n c l p q sz ways true HW.out (by have := MM.out.size; omega) HL.out (fun w' m => HS.out w' (MM.out.trans m)) (by have := HQE.out; omega) (by have := HEQ.out; omega) hz1 hz2 hways hn hbl hbit (by have := HQE.out; omega) hnc _ _ _ _ _ _ _ _ _ _ _ _ _ _ _ _ _ _ _ _ _ _ _ _ _ _ _ _ _ _ _ _ _ _ _ _ _ _ _ _ _ _ _ _ _ _ _ _ _ _ _ _ _ _ _ _ _ _ _ _ _ _ _ _ _ _ _ _ _ _ _ _ _ _ _ _ _ _ _ _ _ _ _ _ _ _ _ _ _ _ _ _ _ _ _ _ _ _ ?_
              intro e w2 _ _ _ _ _ _ _ _ _ _ _ _ _ _ _ _ _ _ _ _ _ _ _ _ _ _ _ _ _ _ _ _ _ _ _ _ _ _ _ _ _ _ _ _ _ _ _ _ _ _ _ _ _ _ _ _ _ _ _ _ _ _ _ _ _ _ _ _ _ _ _ _ _ _ _ _ _ _ _ he hx m2
              obtain ⟨x, hb, hw2⟩ := hx
              have hrel : (q < n ∧ Blks l q (bs ++ x) false ∧ (bs ++ x).length ≤ 132 * q) ∨ (n ≤ q ∧ Blks l n (bs ++ x) true ∧ (bs ++ x).length ≤ 132 * n) := by
                have hbx := blk_bd hb (by have := HQE.out; omega)
                have hd : decide (q = l.length) = true := decide_eq_true (by have := HL.out; omega)
                have hb2 := Blks.snoc HBK.out (by have := HQE.out; omega) (by have := HL.out; omega) (hd ▸ hb)
                rw [hd] at hb2
                exact Or.inr ⟨by have := HEQ.out; omega, by rw [← HEQ.out]; exact hb2, by have := HQE.out; have := HEQ.out; simp; omega⟩
              have HRL := Lib.hid hrel; have HW2 := Lib.hid hw2; have M2 := Lib.hid (MM.out.trans m2)
              clear hrel hw2 m2 hb
              rcases he with rfl | rfl
              all_goals
                go_wp2
                go_roundg (n - q)
                case measure => have := HK.out; have := HQE.out; omega
                case rel => exact ⟨q, bs ++ x, rfl, rfl, hqb2, HRL.out, HW2.out, M2.out⟩
            · refine pack_sym wr W base bs a n c l p q sz ways true HW.out (by have := MM.out.size; omega) HL.out (fun w' m => HS.out w' (MM.out.trans m)) (by have := HQE.out; omega) (by have := HEQ.out; omega) hz1 hz2 hways hn hbl hbit _ _ _ _ _ _ _ _ _ _ _ _ _ _ _ _ _ _ _ _ _ _ _ _ _ _ _ _ _ _ _ _ _ _ _ _ _ _ _ _ _ _ _ _ _ _ _ _ _ _ _ _ _ _ _ _ _ _ _ _ _ _ _ _ _ _ _ _ _ _ _ _ _ _ _ _ _ _ _ _ _ _ _ _ _ _ _ _ _ _ _ _ _ _ _ _ _ _ ?_
              intro e w2 _ _ _ _ _ _ _ _ _ _ _ _ _ _ _ _ _ _ _ _ _ _ _ _ _ _ _ _ _ _ _ _ _ _ _ _ _ _ _ _ _ _ _ _ _ _ _ _ _ _ _ _ _ _ _ _ _ _ _ _ _ _ _ _ _ _ _ _ _ _ _ _ _ _ _ _ _ _ _ he hx m2
              obtain ⟨x, hb, hw2⟩ := hx
              have hrel : (q < n ∧ Blks l q (bs ++ x) false ∧ (bs ++ x).length ≤ 132 * q) ∨ (n ≤ q ∧ Blks l n (bs ++ x) true ∧ (bs ++ x).length ≤ 132 * n) := by
                have hbx := blk_bd hb (by have := HQE.out; omega)
                have hd : decide (q = l.length) = true := decide_eq_true (by have := HL.out; omega)
                have hb2 := Blks.snoc HBK.out (by have := HQE.out; omega) (by have := HL.out; omega) (hd ▸ hb)
                rw [hd] at hb2
                exact Or.inr ⟨by have := HEQ.out; omega, by rw [← HEQ.out]; exact hb2, by have := HQE.out; have := HEQ.out; simp; omega⟩
              have HRL := Lib.hid hrel; have HW2 := Lib.hid hw2; have M2 := Lib.hid (MM.out.trans m2)
              clear hrel hw2 m2 hb
              rcases he with rfl | rfl
              all_goals
                go_wp2
                go_roundg (n - q)
                case measure => have := HK.out; have := HQE.out; omega
                case rel => exact ⟨q, bs ++ x, rfl, rfl, hqb2, HRL.out, HW2.out, M2.out⟩
        · have e2 : ¬ (q : Int) ≤ (n : Int) := by omega
          cases hpz : ((p : Int) == 0)
          all_goals
            go_upto_if 38 with fail
            rename_i K hK
            have hK2 := fun (a : Act) (w : World) (h : Hid _) => hK a w h.out
            clear hK
            go_wp2
            refine Lib.hid ?_
            cases hbit : ways.testBit (p / sz % 8)
            · refine pack_sto wr W base bs a n c l p n sz ways true HW.out (by have := MM.out.size; omega) HL.out (fun w' m => HS.out w' (MM.out.trans m)) (by have := HQE.out; omega) (by omega) hz1 hz2 hways hn hbl hbit (by have := HQE.out; omega) hnc _ _ _ _ _ _ _ _ _ _ _ _ _ _ _ _ _ _ _ _ _ _ _ _ _ _ _ _ _ _ _ _ _ _ _ _ _ _ _ _ _ _ _ _ _ _ _ _ _ _ _ _ _ _ _ _ _ _ _ _ _ _ _ _ _ _ _ _ _ _ _ _ _ _ _ _ _ _ _ _ _ _ _ _ _ _ _ _ _ _ _ _ _ _ _ _ _ _ ?_
              intro e w2 _ _ _ _ _ _ _ _ _ _ _ _ _ _ _ _ _ _ _ _ _ _ _ _ _ _ _ _ _ _ _ _ _ _ _ _ _ _ _ _ _ _ _ _ _ _ _ _ _ _ _ _ _ _ _ _ _ _ _ _ _ _ _ _ _ _ _ _ _ _ _ _ _ _ _ _ _ _ _ he hx m2
              obtain ⟨x, hb, hw2⟩ := hx
              have hrel : (q < n ∧ Blks l q (bs ++ x) false ∧ (bs ++ x).length ≤ 132 * q) ∨ (n ≤ q ∧ Blks l n (bs ++ x) true ∧ (bs ++ x).length ≤ 132 * n) := by
                have hbx := blk_bd hb (by have := HQE.out; omega)
                have hd : decide (n = l.length) = true := decide_eq_true (by have := HL.out; omega)
                have hb2 := Blks.snoc HBK.out (by have := HQE.out; omega) (by have := HL.out; omega) (hd ▸ hb)
                rw [hd] at hb2
                exact Or.inr ⟨by omega, hb2, by have := HQE.out; simp; omega⟩
              have HRL := Lib.hid hrel; have HW2 := Lib.hid hw2; have M2 := Lib.hid (MM.out.trans m2)
              clear hrel hw2 m2 hb
              rcases he with rfl | rfl
              all_goals
                go_wp2
                go_roundg (n - q)
                case measure => have := HK.out; have := HQE.out; omega
                case rel => exact ⟨q, bs ++ x, rfl, rfl, hqb2, HRL.out, HW2.out, M2.out⟩
            · refine pack_sym wr W base bs a n c l p n sz ways true HW.out (by have := MM.out.size; omega) HL.out (fun w' m => HS.out w' (MM.out.trans m)) (by have := HQE.out; omega) (by omega) hz1 hz2 hways hn hbl hbit _ _ _ _ _ _ _ _ _ _ _ _ _ _ _ _ _ _ _ _ _ _ _ _ _ _ _ _ _ _ _ _ _ _ _ _ _ _ _ _ _ _ _ _ _ _ _ _ _ _ _ _ _ _ _ _ _ _ _ _ _ _ _ _ _ _ _ _ _ _ _ _ _ _ _ _ _ _ _ _ _ _ _ _ _ _ _ _ _ _ _ _ _ _ _ _ _ _ ?_
              intro e w2 _ _ _ _ _ _ _ _ _ _ _ _ _ _ _ _ _ _ _ _ _ _ _ _ _ _ _ _ _ _ _ _ _ _ _ _ _ _ _ _ _ _ _ _ _ _ _ _ _ _ _ _ _ _ _ _ _ _ _ _ _ _ _ _ _ _ _ _ _ _ _ _ _ _ _ _ _ _ _ he hx m2
              obtain ⟨x, hb, hw2⟩ := hx
              have hrel : (q < n ∧ Blks l q (bs ++ x) false ∧ (bs ++ x).length ≤ 132 * q) ∨ (n ≤ q ∧ Blks l n (bs ++ x) true ∧ (bs ++ x).length ≤ 132 * n) := by
                have hbx := blk_bd hb (by have := HQE.out; omega)
                have hd : decide (n = l.length) = true := decide_eq_true (by have := HL.out; omega)
                have hb2 := Blks.snoc HBK.out (by have := HQE.out; omega) (by have := HL.out; omega) (hd ▸ hb)
                rw [hd] at hb2
                exact Or.inr ⟨by omega, hb2, by have := HQE.out; simp; omega⟩
              have HRL := Lib.hid hrel; have HW2 := Lib.hid hw2; have M2 := Lib.hid (MM.out.trans m2)
              clear hrel hw2 m2 hb
              rcases he with rfl | rfl
              all_goals
                go_wp2
                go_roundg (n - q)
                case measure => have := HK.out; have := HQE.out; omega
                case rel => exact ⟨q, bs ++ x, rfl, rfl, hqb2, HRL.out, HW2.out, M2.out⟩
    · have hbl : Blks l n bs true ∧ bs.length ≤ 132 * n := by
        rcases hor with h | h
        · omega
        · exact h.2
      have hpz : ((p : Int) == 0) = false := by simp; omega
      go_wp2
      exact HQ.out _ bs _ _ _ _ _ _ _ _ _ _ _ _ _ _ _ _ _ _ _ _ _ _ _ _ _ _ _ _ _ _ _ _ _ _ _ _ _ _ _ _ _ _ _ _ _ _ _ _ _ _ _ _ _ _ _ _ _ _ _ _ _ _ _ _ _ _ _ _ _ _ _ _ _ _ _ _ _ _ _ _ _ _ _ _ _ _ _ _ _ _ _ _ _ _ _ _ _ _ _ _ _ hbl.1 hbl.2 HW.out MM.out
end Go.Proofs.YtnpkgmgedgcjmaaGreatDoor
