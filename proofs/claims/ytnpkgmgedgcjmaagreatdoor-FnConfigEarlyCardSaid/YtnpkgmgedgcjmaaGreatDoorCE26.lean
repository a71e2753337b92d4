/- The reference's writer of bits: a block of symbols. The reference's sum of RFC 1950. The reference's packing: one block. No conditions but those in each theorem's own binders. -/
import Derived.Test.YtnpkgmgedgcjmaaGreatDoorCE25
import Derived.Test.YtnpkgmgedgcjmaaGreatDoorCE22
namespace Go.Proofs.YtnpkgmgedgcjmaaGreatDoor
set_option linter.unusedVariables false
set_option linter.unusedSimpArgs false
open Go.RowKit Go.Png

inductive Tok where
  | lit (b : UInt8)
  | ref (n d : Nat)
def tokB : Tok → List Bool
  | .lit b => symB b.toNat
  | .ref n d => againB n d
def tokLen : Tok → Nat
  | .lit _ => 1
  | .ref n _ => n
def TokOk (l : List UInt8) (p : Nat) : Tok → Prop
  | .lit b => p < l.length ∧ b = at_ l p
  | .ref n d => 3 ≤ n ∧ n ≤ 258 ∧ 1 ≤ d ∧ d ≤ p ∧ d ≤ 32768 ∧ p + n ≤ l.length ∧ ∀ j, j < n → at_ l (p + j) = at_ l (p + j - d)
inductive Toks (l : List UInt8) : Nat → List Tok → Nat → Prop where
  | nil (p : Nat) : Toks l p [] p
  | snoc {p q : Nat} {ts : List Tok} (t : Tok) (h : Toks l p ts q) (ht : TokOk l q t) : Toks l p (ts ++ [t]) (q + tokLen t)
def toksB (ts : List Tok) : List Bool := ts.flatMap tokB
theorem toksB_snoc (ts : List Tok) (t : Tok) : toksB (ts ++ [t]) = toksB ts ++ tokB t := by simp [toksB]
theorem tok_bd {l : List UInt8} {p : Nat} {t : Tok} (h : TokOk l p t) : (tokB t).length ≤ 32 * tokLen t ∧ 1 ≤ tokLen t := by
  cases t with
  | lit b => have := symB_length b.toNat; exact ⟨by simp only [tokB, tokLen]; omega, Nat.le_refl _⟩
  | ref n d => have := againB_length n d; have := h.1; exact ⟨by simp only [tokB, tokLen]; omega, by simp only [tokLen]; omega⟩
theorem toks_bd {l : List UInt8} {p q : Nat} {ts : List Tok} (h : Toks l p ts q) : p ≤ q ∧ (toksB ts).length ≤ 32 * (q - p) := by
  induction h with
  | nil => simp [toksB]
  | snoc t h ht ih => have := tok_bd ht; rw [toksB_snoc, List.length_append]; omega

set_option maxRecDepth 100000 in
set_option maxHeartbeats 4000000 in
theorem wrBlock (w : World) (W base : Nat) (F : Nat → Prop) (bs : List Bool) (a : Option Addr) (L c : Nat) (l : List UInt8) (p0 p1 : Nat) (fa : Option Addr) (fn fc : Nat) (fl : List Nat) (h : WrAt w W base F bs) (hbase : base ≤ w.heap.size)
    (hl : l.length = L) (hs : ∀ w', Mod (Off base F) w w' → SlB w' a l) (hfl : fl.length = fn) (hfs : ∀ w', Mod (Off base F) w w' → SlI w' fa fl) (hfb : ∀ i, i < fn → 1 ≤ fl.getD i 0 ∧ fl.getD i 0 ≤ 32768) (hp : p0 ≤ p1) (hp1 : p1 ≤ L) (hL : L ≤ 1000000) (hfn : fn ≤ 1000) (hn : bs.length + 32 * (p1 - p0) + 32 ≤ 1000000000) :
    Calls Tryz.prog 70 #[.pointer (some ⟨W, 0, none⟩), .slice a L c, .int .i64 p0, .int .i64 p1, .slice fa fn fc] w fun e w' => e = .returned (.tuple #[]) ∧ (∃ ts, Toks l p0 ts p1 ∧ WrAt w' W base F (bs ++ toksB ts ++ symB 256)) ∧ Mod (Off base F) w w' := by
  have H := Lib.hid h; have HL := Lib.hid hl; have HS := Lib.hid hs; have HFL := Lib.hid hfl; have HFS := Lib.hid hfs; have HFB := Lib.hid hfb
  clear h hl hs hfl hfs hfb
  go_enter Tryz.func70, Tryz.ntmps70
  go_wp2
  go_loopg [10, 11, 12, 14, 15, 22] (p1 - p0) (fun k v10 _ _ _ _ _ wr => ∃ p : Nat, ∃ ts : List Tok, p ≤ p1 ∧ k = p1 - p ∧ v10 = .int .i64 p ∧ Toks l p0 ts p ∧ WrAt wr W base F (bs ++ toksB ts) ∧ Mod (Off base F) w wr)
  case atStart => exact ⟨p0, [], by omega, rfl, rfl, Toks.nil _, by simpa [toksB] using H.out, Mod.refl _ _⟩
  case round =>
    obtain ⟨p, ts, hpp, hk, rfl, htk, hw, mm⟩ := hrel
    have hb := toks_bd htk
    have HK := Lib.hid hk; have HTK := Lib.hid htk; have HW := Lib.hid hw; have MM := Lib.hid mm
    clear hk htk hw mm
    by_cases hlt : p < p1
    · go_wp2
      go_loopg [11, 12, 14, 15, 22] (fn - 0) (fun k v11 v12 _ _ v22 wz => ∃ i n d : Nat, i ≤ fn ∧ k = fn - i ∧ v22 = .int .i64 i ∧ v11 = .int .i64 n ∧ v12 = .int .i64 d ∧ (n = 0 ∨ (n ≤ 258 ∧ p + n ≤ p1 ∧ 1 ≤ d ∧ d ≤ p ∧ d ≤ 32768 ∧ ∀ j, j < n → at_ l (p + j) = at_ l (p + j - d))) ∧ ∃ m, wz = wr.drewN m)
      case atStart => exact ⟨0, 0, 0, by omega, rfl, rfl, rfl, rfl, Or.inl rfl, 0, rfl⟩
      case round =>
        obtain ⟨i, n, d, hi, hk, rfl, rfl, rfl, hnd, m, rfl⟩ := hrel
        have HK2 := Lib.hid hk; have HND := Lib.hid hnd
        clear hk hnd
        by_cases hif : i < fn
        · obtain ⟨fb, fo, rfl, hfc⟩ := (HFS.out _ MM.out).some i (by have := HFL.out; omega)
          have hfx := HFB.out i hif
          have hrp := specRepeats (wr.drewN m) a L c l p (fl.getD i 0) HL.out ((HS.out _ MM.out).news ((Mod.refl _ wr).drewN m)) (by omega) (by omega) (by omega) hfx.1
          have HRP := Lib.hid hrp
          clear hrp
          generalize fl.getD i 0 = f at *
          go_wp2_with (fail)
          refine HRP.out.mono ?_
          rintro e w2 ⟨⟨r, rfl, hr1, hr2, hr3, hr4⟩, q, rfl⟩
          have e1 : ((p1 : Int) - (p : Int)) = ((p1 - p : Nat) : Int) := by omega
          have HR4 := Lib.hid hr4
          clear hr4 HRP
          by_cases hmin : r ≤ p1 - p
          · have hmin2 : (r : Int) ≤ ((p1 - p : Nat) : Int) := by omega
            by_cases hgt : n < r
            · go_wp2
              go_roundg (fn - (i + 1))
              case measure => have := HK2.out; omega
              case rel => exact ⟨i + 1, r, f, by omega, rfl, by go_num, rfl, rfl, Or.inr ⟨by omega, by omega, hfx.1, hr3 (by omega), hfx.2, fun j hj => HR4.out j (by omega)⟩, m + q, rfl⟩
            · go_wp2
              go_roundg (fn - (i + 1))
              case measure => have := HK2.out; omega
              case rel => exact ⟨i + 1, n, d, by omega, rfl, by go_num, rfl, rfl, HND.out, m + q, rfl⟩
          · have hmin2 : ¬ (r : Int) ≤ ((p1 - p : Nat) : Int) := by omega
            by_cases hgt : n < p1 - p
            · go_wp2
              go_roundg (fn - (i + 1))
              case measure => have := HK2.out; omega
              case rel => exact ⟨i + 1, p1 - p, f, by omega, rfl, by go_num, rfl, rfl, Or.inr ⟨by omega, by omega, hfx.1, hr3 (by omega), hfx.2, fun j hj => HR4.out j (by omega)⟩, m + q, rfl⟩
            · go_wp2
              go_roundg (fn - (i + 1))
              case measure => have := HK2.out; omega
              case rel => exact ⟨i + 1, n, d, by omega, rfl, by go_num, rfl, rfl, HND.out, m + q, rfl⟩
        · obtain rfl : i = fn := by omega
          by_cases hn3 : n < 3
          · obtain ⟨ab, ao, rfl, hac⟩ := (HS.out _ MM.out).some p (by have := HL.out; omega)
            have c1 := bytes_at hac p (by have := HL.out; omega)
            have x1 := (at_ l p).toNat_lt
            have hsy := wrSymbol (wr.drewN m) W base F _ (at_ l p).toNat (HW.out.news ((Mod.refl _ wr).drewN m)) (by have := MM.out.size; simp; omega) (by simp; omega) (by omega)
            have htk : Toks l p0 (ts ++ [Tok.lit (at_ l p)]) (p + 1) := Toks.snoc (.lit (at_ l p)) HTK.out ⟨by have := HL.out; omega, rfl⟩
            have hbb : bs ++ toksB (ts ++ [Tok.lit (at_ l p)]) = bs ++ toksB ts ++ symB (at_ l p).toNat := by rw [toksB_snoc, List.append_assoc]; rfl
            rw [← hbb] at hsy
            have HSY := Lib.hid hsy; have HTK2 := Lib.hid htk
            clear hsy hbb htk hac
            generalize ts ++ [Tok.lit (at_ l p)] = ts2 at *
            generalize (at_ l p).toNat = x at *
            go_wp2_with (fail)
            refine HSY.out.mono ?_
            rintro e w2 ⟨rfl, hw2, m2⟩
            have HW2 := Lib.hid hw2; have M2 := Lib.hid ((MM.out.drewN m).trans m2)
            clear hw2 m2 HSY
            go_wp2
            go_roundg (p1 - (p + 1))
            case measure => have := HK.out; omega
            case rel => exact ⟨p + 1, ts2, by omega, rfl, by go_num, HTK2.out, HW2.out, M2.out⟩
          · have hnd : n ≤ 258 ∧ p + n ≤ p1 ∧ 1 ≤ d ∧ d ≤ p ∧ d ≤ 32768 ∧ ∀ j, j < n → at_ l (p + j) = at_ l (p + j - d) := by
              rcases HND.out with h | h
              · omega
              · exact h
            obtain ⟨n1, n2, n3, n4, n5, n6⟩ := hnd
            have hag := wrAgain (wr.drewN m) W base F _ n d (HW.out.news ((Mod.refl _ wr).drewN m)) (by have := MM.out.size; simp; omega) (by simp; omega) (by omega) n1 n3 n5
            have htk : Toks l p0 (ts ++ [Tok.ref n d]) (p + n) := Toks.snoc (.ref n d) HTK.out ⟨by omega, n1, n3, n4, n5, by have := HL.out; omega, n6⟩
            have hbb : bs ++ toksB (ts ++ [Tok.ref n d]) = bs ++ toksB ts ++ againB n d := by rw [toksB_snoc, List.append_assoc]; rfl
            rw [← hbb] at hag
            have HSY := Lib.hid hag; have HTK2 := Lib.hid htk
            clear hag hbb htk n6 HND
            generalize ts ++ [Tok.ref n d] = ts2 at *
            go_wp2_with (fail)
            refine HSY.out.mono ?_
            rintro e w2 ⟨rfl, hw2, m2⟩
            have HW2 := Lib.hid hw2; have M2 := Lib.hid ((MM.out.drewN m).trans m2)
            clear hw2 m2 HSY
            go_wp2
            go_roundg (p1 - (p + n))
            case measure => have := HK.out; omega
            case rel => exact ⟨p + n, ts2, by omega, rfl, by go_num, HTK2.out, HW2.out, M2.out⟩
    · obtain rfl : p = p1 := by omega
      have hsy := wrSymbol wr W base F _ 256 HW.out (by have := MM.out.size; omega) (by simp; omega) (by omega)
      have HSY := Lib.hid hsy
      clear hsy
      go_wp2_with (fail)
      refine HSY.out.mono ?_
      rintro e w2 ⟨rfl, hw2, m2⟩
      go_wp2
      go_end0
      exact ⟨rfl, ⟨ts, HTK.out, hw2⟩, MM.out.trans m2⟩
end Go.Proofs.YtnpkgmgedgcjmaaGreatDoor
namespace Go.Proofs.YtnpkgmgedgcjmaaGreatDoor
set_option linter.unusedVariables false
set_option linter.unusedSimpArgs false
open Go.RowKit Go.Png

def adlS (p : Nat × Nat) (v : UInt8) : Nat × Nat := ((p.1 + v.toNat) % 65521, (p.2 + (p.1 + v.toNat) % 65521) % 65521)
def adlP (l : List UInt8) : Nat × Nat := l.foldl adlS (1, 0)
def adler (l : List UInt8) : Nat := (adlP l).2 * 65536 + (adlP l).1
theorem adlP_snoc (l : List UInt8) (v : UInt8) : adlP (l ++ [v]) = adlS (adlP l) v := by unfold adlP; rw [List.foldl_append]; rfl
theorem adlP_lt : ∀ l : List UInt8, (adlP l).1 < 65521 ∧ (adlP l).2 < 65521 := by
  have : ∀ (l : List UInt8) (p : Nat × Nat), p.1 < 65521 ∧ p.2 < 65521 → (l.foldl adlS p).1 < 65521 ∧ (l.foldl adlS p).2 < 65521 := by
    intro l
    induction l with
    | nil => intro p h; exact h
    | cons v t ih => intro p h; exact ih _ ⟨Nat.mod_lt _ (by decide), Nat.mod_lt _ (by decide)⟩
  exact fun l => this l _ ⟨by decide, by decide⟩
theorem adler_lt (l : List UInt8) : adler l < 4294967296 := by have := adlP_lt l; unfold adler; omega

theorem or16 (a b : Nat) (ha : a < 65536) (hb : b < 65536) : bits .or .u32 ((b : Int) * 65536) (a : Int) = ((b * 65536 + a : Nat) : Int) := by
  have e : ((b : Int) * 65536) = ((b * 65536 : Nat) : Int) := by omega
  rw [e, u32_or_nat _ _ (by omega) (by omega)]
  congr 1
  have := Nat.two_pow_add_eq_or_of_lt (i := 16) (b := a) (by omega) b
  rw [show b * 65536 = 2 ^ 16 * b by omega]
  exact this.symm

set_option maxRecDepth 100000 in
set_option maxHeartbeats 4000000 in
theorem specAdler (w : World) (a : Option Addr) (n c : Nat) (l : List UInt8) (hl : l.length = n) (hn : n ≤ 1000000000) (hs : SlB w a l) :
    Calls Tryz.prog 71 #[.slice a n c] w fun e w' => e = .returned (.int .u32 (adler l : Nat)) ∧ w = w' := by
  have HS := Lib.hid hs; have HL := Lib.hid hl
  clear hs hl
  go_enter Tryz.func71, Tryz.ntmps71
  go_wp2
  go_loopg [3, 4, 6, 9] (n - 0) (fun k v3 v4 _ v9 wr => ∃ j : Nat, j ≤ n ∧ k = n - j ∧ v9 = .int .i64 j ∧ v3 = .int .u32 ((adlP (l.take j)).1 : Nat) ∧ v4 = .int .u32 ((adlP (l.take j)).2 : Nat) ∧ w = wr)
  case atStart => exact ⟨0, by omega, rfl, rfl, by simp [adlP], by simp [adlP], rfl⟩
  case round =>
    obtain ⟨j, hj, hk, rfl, rfl, rfl, rfl⟩ := hrel
    have HK := Lib.hid hk
    clear hk
    have hbd := adlP_lt (l.take j)
    by_cases hlt : j < n
    · have hkl : j < l.length := by have := HL.out; omega
      obtain ⟨b, off, rfl, hb⟩ := HS.out.some j hkl
      have hcell := hb j hkl
      have hst : adlP (l.take (j + 1)) = adlS (adlP (l.take j)) l[j] := by
        rw [← List.take_append_getElem hkl, adlP_snoc]
      have HST := Lib.hid hst
      clear hst hb
      generalize adlP (l.take j) = p at *
      generalize l[j] = v at *
      obtain ⟨x, y⟩ := p
      have hv := v.toNat_lt
      dsimp only at hbd
      go_wp2
      go_roundg (n - (j + 1))
      case measure => have := HK.out; omega
      case rel => exact ⟨j + 1, by omega, rfl, by go_num, by rw [HST.out]; simp only [adlS]; rfl, by rw [HST.out]; simp only [adlS]; rfl, rfl⟩
    · obtain rfl : j = n := by omega
      have hal : adler l = (adlP (l.take j)).2 * 65536 + (adlP (l.take j)).1 := by rw [List.take_of_length_le (by have := HL.out; omega)]; rfl
      have hor := or16 (adlP (l.take j)).1 (adlP (l.take j)).2 (by omega) (by omega)
      have HAL := Lib.hid hal; have HOR := Lib.hid hor
      clear hal hor
      generalize adlP (l.take j) = p at *
      obtain ⟨x, y⟩ := p
      dsimp only at hbd
      go_wp2
      go_ret
      refine ⟨?_, rfl⟩
      rw [HAL.out]
      first | exact congrArg (fun z => Ending.returned (.int .u32 z)) HOR.out | skip
end Go.Proofs.YtnpkgmgedgcjmaaGreatDoor
namespace Go.Proofs.YtnpkgmgedgcjmaaGreatDoor
set_option linter.unusedVariables false
set_option linter.unusedSimpArgs false
open Go.RowKit Go.Png

def noF : Nat → Prop := fun _ => False
/-- A block of bytes as they stand, behind n bits. -/
def stoB (fin : Bool) (n : Nat) (xs : List UInt8) : List Bool := [fin] ++ lsb 0 2 ++ lsb 0 ((8 - (n + 3) % 8) % 8) ++ lsb xs.length 16 ++ lsb (65535 - xs.length) 16 ++ xs.flatMap (fun v => lsb v.toNat 8)
/-- A block of symbols. -/
def symBk (fin : Bool) (ts : List Tok) : List Bool := [fin] ++ lsb 1 2 ++ toksB ts ++ symB 256
/-- The bytes of l from p to q. -/
def cutL (l : List UInt8) (p q : Nat) : List UInt8 := (l.drop p).take (q - p)
inductive Blk (l : List UInt8) (fin : Bool) (n p q : Nat) : List Bool → Prop where
  | sym (ts : List Tok) (h : Toks l p ts q) : Blk l fin n p q (symBk fin ts)
  | sto (h : q - p ≤ 60000) (hq : q ≤ l.length) : Blk l fin n p q (stoB fin n (cutL l p q))
inductive Blks (l : List UInt8) : Nat → List Bool → Bool → Prop where
  | nil : Blks l 0 [] false
  | snoc {p q : Nat} {bs x : List Bool} (h : Blks l p bs false) (hpq : p < q) (hq : q ≤ l.length) (hb : Blk l (decide (q = l.length)) bs.length p q x) : Blks l q (bs ++ x) (decide (q = l.length))
theorem flat8_length (xs : List UInt8) : (xs.flatMap (fun v => lsb v.toNat 8)).length = 8 * xs.length := by
  induction xs with
  | nil => rfl
  | cons x t ih => simp at ih; simp [ih]; omega
theorem blk_bd {l : List UInt8} {fin : Bool} {n p q : Nat} {x : List Bool} (h : Blk l fin n p q x) (hpq : p < q) : x.length ≤ 132 * (q - p) := by
  cases h with
  | sym ts h => have := toks_bd h; have := symB_length 256; simp [symBk]; omega
  | sto h hq => simp [stoB, -List.length_flatMap, flat8_length, cutL]; omega
theorem cutL_length {l : List UInt8} {p q : Nat} (hpq : p ≤ q) (hq : q ≤ l.length) : (cutL l p q).length = q - p := by simp [cutL]; omega

set_option maxRecDepth 100000 in
set_option maxHeartbeats 4000000 in
theorem pack_sym (w : World) (W base : Nat) (bs : List Bool) (a : Option Addr) (n c : Nat) (l : List UInt8) (p q sz ways : Nat) (fin : Bool) (h : WrAt w W base noF bs) (hbase : base ≤ w.heap.size) (hl : l.length = n) (hs : ∀ w', Mod (Off base noF) w w' → SlB w' a l) (hpq : p < q) (hq : q ≤ n)
    (hz1 : 1 ≤ sz) (hz2 : sz ≤ 60000) (hways : ways ≤ 255) (hn : n ≤ 1000000) (hbs : bs.length ≤ 132 * p) (hbit : ways.testBit (p / sz % 8) = true)
    (s3 s4 s5 s6 s11 s13 s14 s15 s16 s17 s94 s95 s96 s97 s98 s99 s100 s101 s102 s103 : Value) (u12 u18 u19 u20 u21 u22 u23 u24 u25 u26 u27 u28 u29 u30 u31 u32 u33 u34 u35 u36 u37 u38 u39 u40 u41 u42 u43 u44 u45 u46 u47 u48 u49 u50 u51 u52 u53 u54 u55 u56 u57 u58 u59 u60 u61 u62 u63 u64 u65 u66 u67 u68 u69 u70 u71 u72 u73 u74 u75 u76 u77 u78 u79 u80 u81 u82 u83 u84 u85 u86 u87 u88 u89 u90 u91 u92 u93 : Value) (Q : Exit → Act → World → Prop)
    (hQ : ∀ e w' (u9 u10 u12 u18 u19 u20 u21 u22 u23 u24 u25 u26 u27 u28 u29 u30 u31 u32 u33 u34 u35 u36 u37 u38 u39 u40 u41 u42 u43 u44 u45 u46 u47 u48 u49 u50 u51 u52 u53 u54 u55 u56 u57 u58 u59 u60 u61 u62 u63 u64 u65 u66 u67 u68 u69 u70 u71 u72 u73 u74 u75 u76 u77 u78 u79 u80 u81 u82 u83 u84 u85 u86 u87 u88 u89 u90 u91 u92 u93 : Value), (e = .normal ∨ e = .exit 1) → (∃ x, Blk l fin bs.length p q x ∧ WrAt w' W base noF (bs ++ x)) → Mod (Off base noF) w w' →
       Q e ⟨#[.slice a n c, .int .i64 sz, .int .i64 ways, s3, s4, s5, s6, .pointer (some ⟨W, 0, none⟩), .int .i64 p, u9, u10, s11, u12, s13, s14, s15, s16, s17, u18, u19, u20, u21, u22, u23, u24, u25, u26, u27, u28, u29, u30, u31, u32, u33, u34, u35, u36, u37, u38, u39, u40, u41, u42, u43, u44, u45, u46, u47, u48, u49, u50, u51, u52, u53, u54, u55, u56, u57, u58, u59, u60, u61, u62, u63, u64, u65, u66, u67, u68, u69, u70, u71, u72, u73, u74, u75, u76, u77, u78, u79, u80, u81, u82, u83, u84, u85, u86, u87, u88, u89, u90, u91, u92, u93, s94, s95, s96, s97, s98, s99, s100, s101, s102, s103], []⟩ w') :
    Code.wp Tryz.prog (navc [1, 1, 1, 0, 1, 0, 0, 1, 0, 0, 1, 1, 1] (textOf Tryz.f55)) Q
      ⟨#[.slice a n c, .int .i64 sz, .int .i64 ways, s3, s4, s5, s6, .pointer (some ⟨W, 0, none⟩), .int .i64 p, .int .i64 q, .int .i64 (fin.toNat : Nat), s11, u12, s13, s14, s15, s16, s17, u18, u19, u20, u21, u22, u23, u24, u25, u26, u27, u28, u29, u30, u31, u32, u33, u34, u35, u36, u37, u38, u39, u40, u41, u42, u43, u44, u45, u46, u47, u48, u49, u50, u51, u52, u53, u54, u55, u56, u57, u58, u59, u60, u61, u62, u63, u64, u65, u66, u67, u68, u69, u70, u71, u72, u73, u74, u75, u76, u77, u78, u79, u80, u81, u82, u83, u84, u85, u86, u87, u88, u89, u90, u91, u92, u93, s94, s95, s96, s97, s98, s99, s100, s101, s102, s103], []⟩ w := by
  conv => arg 2; whnf
  dsimp only
  have HQ := Lib.hid hQ; have H := Lib.hid h; have HS := Lib.hid hs; have HL := Lib.hid hl
  clear hQ h hs hl
  have hone := wrOne w W base noF bs fin H.out hbase (by omega)
  have HONE := Lib.hid hone
  clear hone
  go_upto_region 11 with (go_at_call 68; refine HONE.out.mono ?_; rintro e w1 ⟨rfl, hw1, m1⟩)
  have HW1 := Lib.hid hw1; have M1 := Lib.hid m1
  have hdz : p / sz ≤ p := Nat.div_le_self _ _
  have t1 : (p : Int).tdiv (sz : Int) = ((p / sz : Nat) : Int) := (Int.ofNat_tdiv p sz).symm
  have t2 : ((p / sz : Nat) : Int).tmod 8 = ((p / sz % 8 : Nat) : Int) := (Int.ofNat_tmod (p / sz) 8).symm
  have hk8 : p / sz % 8 < 8 := Nat.mod_lt _ (by decide)
  have t3 : bits .and .i64 ((ways : Int) / 2 ^ (p / sz % 8)) 1 = 1 := by rw [bit_and ways _ (by omega), hbit]; rfl
  clear hw1 m1 HONE hbit
  generalize p / sz = d at *
  generalize d % 8 = k at *
  go_upto_region 12 with fail
  clear t1 t2 t3 hk8 hdz
  have hmn := wrMany w1 W base noF (bs ++ [fin]) 1 2 HW1.out (by have := M1.out.size; omega) (by simp; omega) (by omega) (by omega)
  have HMN := Lib.hid hmn
  clear hmn
  go_upto_region 13 with (go_at_call 69; refine HMN.out.mono ?_; rintro e w2 ⟨rfl, hw2, m2⟩)
  have HW2 := Lib.hid hw2; have M2 := Lib.hid (M1.out.trans m2)
  clear hw2 m2 HMN HW1 M1
  have hfar : ∀ v, w2.cell? ⟨W, 0, none⟩ = some v → v.ownBlock ≠ some w2.heap.size := by
    intro v hv he
    obtain ⟨v', g1, g2, _⟩ := HW2.out.out
    rw [hv] at g1
    cases g1
    have := (World.ownsRow.lt g2 w2.heap.size he).2
    omega
  have hWlt : W < w2.heap.size := by obtain ⟨v', g1, _⟩ := HW2.out.out; exact lt_of_cell g1
  have hwf : WrAt (w2.alloc (.cells #[.int .i64 1, .int .i64 2, .int .i64 3, .int .i64 4, .int .i64 6, .int .i64 8, .int .i64 12, .int .i64 17, .int .i64 33, .int .i64 65] 3)) W base (fun k => k = w2.heap.size) (bs ++ [fin] ++ lsb 1 2) :=
    (HW2.out.news ((Mod.refl _ w2).alloc _)).guard (fun k hk => by
      subst hk
      exact Or.inr ⟨by simp, by omega, fun v hv => hfar v ((((Mod.refl (fun _ => False) w2).alloc _).cell hWlt id 0).symm.trans hv)⟩)
  have hc : ∀ i, i < 10 → (w2.alloc (.cells #[.int .i64 1, .int .i64 2, .int .i64 3, .int .i64 4, .int .i64 6, .int .i64 8, .int .i64 12, .int .i64 17, .int .i64 33, .int .i64 65] 3)).cell? ⟨w2.heap.size, i, none⟩ = some (.int .i64 (([1, 2, 3, 4, 6, 8, 12, 17, 33, 65] : List Nat).getD i 0 : Nat)) := by
    intro i hi
    rw [World.cell?_alloc_new]
    have : i = 0 ∨ i = 1 ∨ i = 2 ∨ i = 3 ∨ i = 4 ∨ i = 5 ∨ i = 6 ∨ i = 7 ∨ i = 8 ∨ i = 9 := by omega
    rcases this with rfl | rfl | rfl | rfl | rfl | rfl | rfl | rfl | rfl | rfl <;> rfl
  have hblk := wrBlock (w2.alloc (.cells #[.int .i64 1, .int .i64 2, .int .i64 3, .int .i64 4, .int .i64 6, .int .i64 8, .int .i64 12, .int .i64 17, .int .i64 33, .int .i64 65] 3)) W base (fun k => k = w2.heap.size) (bs ++ [fin] ++ lsb 1 2) a n c l p q (some ⟨w2.heap.size, 0, none⟩) 10 10 [1, 2, 3, 4, 6, 8, 12, 17, 33, 65] hwf (by have := M2.out.size; simp; omega) HL.out
    (fun w' m => HS.out w' ((M2.out.alloc _).then m (fun k _ hk => ⟨hk.1, id⟩))) rfl
    (fun w' m => Or.inr ⟨_, 0, rfl, fun i hi => by rw [Nat.zero_add, m.cell (by simp) (fun hk => hk.2 rfl)]; exact hc i hi⟩)
    (fun i hi => by
      have : i = 0 ∨ i = 1 ∨ i = 2 ∨ i = 3 ∨ i = 4 ∨ i = 5 ∨ i = 6 ∨ i = 7 ∨ i = 8 ∨ i = 9 := by omega
      rcases this with rfl | rfl | rfl | rfl | rfl | rfl | rfl | rfl | rfl | rfl <;> decide)
    (by omega) hq hn (by decide) (by simp; omega)
  have HBLK := Lib.hid hblk
  clear hblk hc hwf hfar hWlt
  go_wp2_with (fail)
  refine HBLK.out.mono ?_
  rintro e w3 ⟨rfl, ⟨ts, htk, hw3⟩, m3⟩
  have m4 : Mod (Off base noF) w w3 := (M2.out.alloc _).then m3 (fun k _ hk => ⟨hk.1, id⟩)
  have hw4 := hw3.mono (F' := noF) (Nat.le_refl base) (fun k hk => hk.elim)
  have he : bs ++ [fin] ++ lsb 1 2 ++ toksB ts ++ symB 256 = bs ++ symBk fin ts := by simp [symBk]
  rw [he] at hw4
  have M4 := Lib.hid m4; have HW4 := Lib.hid hw4; have HTK := Lib.hid htk
  clear m4 hw4 he hw3 m3 htk HBLK HW2 M2
  go_wp2
  exact HQ.out _ _ _ _ _ _ _ _ _ _ _ _ _ _ _ _ _ _ _ _ _ _ _ _ _ _ _ _ _ _ _ _ _ _ _ _ _ _ _ _ _ _ _ _ _ _ _ _ _ _ _ _ _ _ _ _ _ _ _ _ _ _ _ _ _ _ _ _ _ _ _ _ _ _ _ _ _ _ _ _ _ (Or.inr rfl) ⟨_, .sym ts HTK.out, HW4.out⟩ M4.out
end Go.Proofs.YtnpkgmgedgcjmaaGreatDoor
