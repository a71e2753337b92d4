/- The reference's writer of bits: numbers, symbols. The reference's lengths and distances of matches. The reference's search for what has been before. The reference's writer of bits: matches. No conditions but those in each theorem's own binders. -/
import Derived.Test.YtnpkgmgedgcjmaaGreatDoorCE24
import Derived.Test.YtnpkgmgedgcjmaaGreatDoorCE20
namespace Go.Proofs.YtnpkgmgedgcjmaaGreatDoor
set_option linter.unusedVariables false
set_option linter.unusedSimpArgs false
open Go.RowKit Go.Png

/-- n bits of a number, the lowest first. -/
def lsb (v n : Nat) : List Bool := (List.range n).map fun k => v.testBit k
theorem lsb_succ (v n : Nat) : lsb v (n + 1) = lsb v n ++ [v.testBit n] := by simp [lsb, List.range_succ]
@[simp] theorem lsb_length (v n : Nat) : (lsb v n).length = n := by simp [lsb]
/-- n bits of a number, the highest first. -/
def msb (v n : Nat) : List Bool := (lsb v n).reverse
@[simp] theorem msb_length (v n : Nat) : (msb v n).length = n := by simp [msb]
theorem msb_succ (v n : Nat) : msb v (n + 1) = v.testBit n :: msb v n := by simp [msb, lsb_succ]

theorem WrAt.mono {w : World} {W base base' : Nat} {F F' : Nat → Prop} {bs : List Bool} (h : WrAt w W base F bs) (hb : base' ≤ base) (hF : ∀ k, F' k → F k) : WrAt w W base' F' bs := by
  obtain ⟨v, h1, h2, h3, h4⟩ := h.out
  exact ⟨Nat.le_trans hb h.lo, fun k => h.nW (hF _ k), fun k hk => h.nF k (hF k hk), ⟨v, h1, h2.mono hb, h3, fun k hk hf => h4 k hk (hF k hf)⟩, h.at_, h.fz⟩
theorem Off.mono {base base' : Nat} {F F' : Nat → Prop} (hb : base' ≤ base) (hF : ∀ k, F' k → F k) (k : Nat) (h : Off base F k) : Off base' F' k := ⟨Nat.le_trans hb h.1, fun hk => h.2 (hF k hk)⟩
/-- One more block to be left alone. -/
theorem WrAt.guard {w : World} {W base : Nat} {F F' : Nat → Prop} {bs : List Bool} (h : WrAt w W base F bs) (hF : ∀ k, F' k → F k ∨ (k < w.heap.size ∧ k ≠ W ∧ ∀ v, w.cell? ⟨W, 0, none⟩ = some v → v.ownBlock ≠ some k)) : WrAt w W base F' bs := by
  obtain ⟨v, h1, h2, h3, h4⟩ := h.out
  refine ⟨h.lo, fun k => ?_, fun k hk => ?_, ⟨v, h1, h2, h3, fun k hk hf => ?_⟩, h.at_, h.fz⟩
  · rcases hF _ k with g | ⟨_, g, _⟩
    · exact h.nW g
    · exact g rfl
  · rcases hF k hk with g | ⟨g, _⟩
    · exact h.nF k g
    · exact g
  · rcases hF k hf with g | ⟨_, _, g⟩
    · exact h4 k hk g
    · exact g v h1 hk

theorem i64_and_nat (a b : Nat) (ha : a < 9223372036854775808) (hb : b < 9223372036854775808) : bits .and .i64 (a : Int) (b : Int) = ((a &&& b : Nat) : Int) := by
  have hx : a &&& b < 2 ^ 63 := Nat.and_lt_two_pow _ (by omega)
  show IntKind.i64.wrap ((BitVec.ofInt 64 (a : Int) &&& BitVec.ofInt 64 (b : Int)).toNat : Int) = _
  rw [BitVec.toNat_and, ofInt_u64 a (by omega), ofInt_u64 b (by omega)]
  exact IntWalk.i64_in _ (by omega)

theorem bit_and (v j : Nat) (hv : v ≤ 1000000000) : bits .and .i64 ((v : Int) / 2 ^ j) 1 = (((v.testBit j).toNat : Nat) : Int) := by
  have e : ((v : Int) / 2 ^ j) = ((v / 2 ^ j : Nat) : Int) := by simp
  have hle : v / 2 ^ j ≤ v := Nat.div_le_self _ _
  have := i64_and_nat (v / 2 ^ j) 1 (by omega) (by decide)
  rw [show ((1 : Nat) : Int) = 1 from rfl] at this
  rw [e, this, Nat.and_one_is_mod, Nat.toNat_testBit]

set_option maxRecDepth 100000 in
set_option maxHeartbeats 4000000 in
theorem wrMany (w : World) (W base : Nat) (F : Nat → Prop) (bs : List Bool) (v n : Nat) (h : WrAt w W base F bs) (hbase : base ≤ w.heap.size) (hn : bs.length + n ≤ 1000000000) (hv : v ≤ 1000000000) (hn2 : n ≤ 32) :
    Calls Tryz.prog 69 #[.pointer (some ⟨W, 0, none⟩), .int .i64 v, .int .i64 n] w fun e w' => e = .returned (.tuple #[]) ∧ WrAt w' W base F (bs ++ lsb v n) ∧ Mod (Off base F) w w' := by
  have H := Lib.hid h
  clear h
  go_enter Tryz.func69, Tryz.ntmps69
  go_wp2
  go_loopg [6, 8] (n - 0) (fun k _ v8 wr => ∃ j : Nat, j ≤ n ∧ k = n - j ∧ v8 = .int .i64 j ∧ WrAt wr W base F (bs ++ lsb v j) ∧ Mod (Off base F) w wr)
  case atStart => exact ⟨0, by omega, rfl, rfl, by simpa [lsb] using H.out, Mod.refl _ _⟩
  case round =>
    obtain ⟨j, hj, hk, rfl, hw, mm⟩ := hrel
    by_cases hlt : j < n
    · have hone := wrOne wr W base F (bs ++ lsb v j) (v.testBit j) hw (by have := mm.size; omega) (by simp; omega)
      rw [List.append_assoc, ← lsb_succ] at hone
      rw [← bit_and v j hv] at hone
      have HONE := Lib.hid hone; have HM := Lib.hid mm; have HK := Lib.hid hk
      clear hone mm hw hk
      go_wp2_with (fail)
      refine HONE.out.mono ?_
      rintro e w2 ⟨rfl, hw2, m2⟩
      have HW := Lib.hid hw2; have HM2 := Lib.hid (HM.out.trans m2)
      clear hw2 m2 HONE HM
      go_wp2
      go_roundg (n - (j + 1))
      case measure => have := HK.out; omega
      case rel => exact ⟨j + 1, by omega, rfl, by go_num, HW.out, HM2.out⟩
    · obtain rfl : j = n := by omega
      have HW := Lib.hid hw; have HM := Lib.hid mm
      clear hw mm hk
      go_wp2
      go_end0
      exact ⟨rfl, HW.out, HM.out⟩

set_option maxRecDepth 100000 in
set_option maxHeartbeats 4000000 in
theorem wrWord (w : World) (W base : Nat) (F : Nat → Prop) (bs : List Bool) (v n : Nat) (h : WrAt w W base F bs) (hbase : base ≤ w.heap.size) (hn : bs.length + n ≤ 1000000000) (hv : v ≤ 1000000000) (hn2 : n ≤ 32) :
    Calls Tryz.prog 112 #[.pointer (some ⟨W, 0, none⟩), .int .i64 v, .int .i64 n] w fun e w' => e = .returned (.tuple #[]) ∧ WrAt w' W base F (bs ++ msb v n) ∧ Mod (Off base F) w w' := by
  have H := Lib.hid h
  clear h
  go_enter Tryz.func112, Tryz.ntmps112
  go_wp2
  go_loopg [6] n (fun k v6 wr => ∃ j : Nat, ∃ c : List Bool, j ≤ n ∧ k = j ∧ v6 = .int .i64 ((j : Int) - 1) ∧ c.length + j = n ∧ c ++ msb v j = msb v n ∧ WrAt wr W base F (bs ++ c) ∧ Mod (Off base F) w wr)
  case atStart => exact ⟨n, [], by omega, rfl, by first | rfl | simp, by simp, by simp, by simpa using H.out, Mod.refl _ _⟩
  case round =>
    obtain ⟨j, c, hj, hk, rfl, hcl, hcm, hw, mm⟩ := hrel
    by_cases hlt : 0 < j
    · obtain ⟨i, rfl⟩ : ∃ i, j = i + 1 := ⟨j - 1, by omega⟩
      have hone := wrOne wr W base F (bs ++ c) (v.testBit i) hw (by have := mm.size; omega) (by simp; omega)
      rw [List.append_assoc, ← bit_and v i hv] at hone
      have hcm2 : (c ++ [v.testBit i]) ++ msb v i = msb v n := by rw [← hcm, msb_succ]; simp
      have e0 : (((i + 1 : Nat) : Int) - 1) = (i : Int) := by omega
      have HONE := Lib.hid hone; have HM := Lib.hid mm; have HK := Lib.hid hk; have HCM := Lib.hid hcm2; have HCL := Lib.hid hcl
      have i0 : (0 : Int) ≤ (i : Int) := by omega
      rw [e0]
      clear hone mm hw hk hcm hcm2 hcl e0
      go_wp2_with (fail)
      refine HONE.out.mono ?_
      rintro e w2 ⟨rfl, hw2, m2⟩
      have HW := Lib.hid hw2; have HM2 := Lib.hid (HM.out.trans m2)
      clear hw2 m2 HONE HM
      go_wp2
      go_roundg i
      case measure => have := HK.out; omega
      case rel => exact ⟨i, c ++ [v.testBit i], by omega, rfl, by go_num, by have := HCL.out; simp; omega, HCM.out, HW.out, HM2.out⟩
    · obtain rfl : j = 0 := by omega
      have hc : c = msb v n := by rw [← hcm]; simp [msb, lsb]
      subst hc
      have HW := Lib.hid hw; have HM := Lib.hid mm
      clear hw mm hk hcl hcm
      go_wp2
      go_end0
      exact ⟨rfl, HW.out, HM.out⟩

/-- A symbol of the code that is told by none. -/
def symB (s : Nat) : List Bool := if s < 144 then msb (48 + s) 8 else if s < 256 then msb (256 + s) 9 else if s < 280 then msb (s - 256) 7 else msb (s - 88) 8
theorem symB_length (s : Nat) : (symB s).length ≤ 9 := by unfold symB; split <;> (try split) <;> (try split) <;> simp

set_option maxRecDepth 100000 in
set_option maxHeartbeats 4000000 in
theorem wrSymbol (w : World) (W base : Nat) (F : Nat → Prop) (bs : List Bool) (s : Nat) (h : WrAt w W base F bs) (hbase : base ≤ w.heap.size) (hn : bs.length + 9 ≤ 1000000000) (hs : s < 288) :
    Calls Tryz.prog 100 #[.pointer (some ⟨W, 0, none⟩), .int .i64 s] w fun e w' => e = .returned (.tuple #[]) ∧ WrAt w' W base F (bs ++ symB s) ∧ Mod (Off base F) w w' := by
  by_cases h1 : s < 144
  · have hc := wrWord w W base F bs (48 + s) 8 h hbase (by omega) (by omega) (by omega)
    have hr : symB s = msb (48 + s) 8 := by unfold symB; rw [if_pos h1]
    rw [← hr] at hc
    have HC := Lib.hid hc
    clear hc h hr
    go_enter Tryz.func100, Tryz.ntmps100
    go_wp2_with (go_at_call 112; refine HC.out.mono ?_; rintro e w2 ⟨rfl, hw2, m2⟩)
    go_end0
    exact ⟨rfl, hw2, m2⟩
  · by_cases h2 : s < 256
    · have hc := wrWord w W base F bs (256 + s) 9 h hbase (by omega) (by omega) (by omega)
      have hr : symB s = msb (256 + s) 9 := by unfold symB; rw [if_neg h1, if_pos h2]
      rw [← hr] at hc
      have HC := Lib.hid hc
      clear hc h hr
      go_enter Tryz.func100, Tryz.ntmps100
      go_wp2_with (go_at_call 112; refine HC.out.mono ?_; rintro e w2 ⟨rfl, hw2, m2⟩)
      go_end0
      exact ⟨rfl, hw2, m2⟩
    · by_cases h3 : s < 280
      · have hc := wrWord w W base F bs (s - 256) 7 h hbase (by omega) (by omega) (by omega)
        have hr : symB s = msb (s - 256) 7 := by unfold symB; rw [if_neg h1, if_neg h2, if_pos h3]
        have e : ((s - 256 : Nat) : Int) = (s : Int) - 256 := by omega
        rw [← hr, e] at hc
        have HC := Lib.hid hc
        clear hc h hr e
        go_enter Tryz.func100, Tryz.ntmps100
        go_wp2_with (go_at_call 112; refine HC.out.mono ?_; rintro e w2 ⟨rfl, hw2, m2⟩)
        go_end0
        exact ⟨rfl, hw2, m2⟩
      · have hc := wrWord w W base F bs (s - 88) 8 h hbase (by omega) (by omega) (by omega)
        have hr : symB s = msb (s - 88) 8 := by unfold symB; rw [if_neg h1, if_neg h2, if_neg h3]
        have e : ((s - 88 : Nat) : Int) = (s : Int) - 88 := by omega
        rw [← hr, e] at hc
        have HC := Lib.hid hc
        clear hc h hr e
        go_enter Tryz.func100, Tryz.ntmps100
        go_wp2_with (go_at_call 112; refine HC.out.mono ?_; rintro e w2 ⟨rfl, hw2, m2⟩)
        go_end0
        exact ⟨rfl, hw2, m2⟩
end Go.Proofs.YtnpkgmgedgcjmaaGreatDoor
namespace Go.Proofs.YtnpkgmgedgcjmaaGreatDoor
set_option linter.unusedVariables false
set_option linter.unusedSimpArgs false
open Go.RowKit Go.Png

/-- The least length of a symbol, and how many bits more. -/
def lenF (s : Nat) : Nat := if s = 285 then 258 else if s < 265 then s - 254 else 3 + (4 + (s - 257) % 4) * 2 ^ ((s - 257) / 4 - 1)
def lenE (s : Nat) : Nat := if s = 285 then 0 else if s < 265 then 0 else (s - 257) / 4 - 1
/-- The least distance of a symbol, and how many bits more. -/
def dstF (s : Nat) : Nat := if s < 4 then s + 1 else 1 + (2 + s % 2) * 2 ^ (s / 2 - 1)
def dstE (s : Nat) : Nat := if s < 4 then 0 else s / 2 - 1

set_option maxRecDepth 100000 in
set_option maxHeartbeats 4000000 in
theorem specLengthOf (s : Nat) (w : World) (h1 : 257 ≤ s) (h2 : s ≤ 285) :
    Calls Tryz.prog 113 #[.int .i64 s] w fun e w' => e = .returned (.tuple #[.int .i64 (lenF s : Nat), .int .i64 (lenE s : Nat)]) ∧ w = w' := by
  obtain h | h | h : s = 285 ∨ s < 265 ∨ (s = 265 ∨ s = 266 ∨ s = 267 ∨ s = 268 ∨ s = 269 ∨ s = 270 ∨ s = 271 ∨ s = 272 ∨ s = 273 ∨ s = 274 ∨ s = 275 ∨ s = 276 ∨ s = 277 ∨ s = 278 ∨ s = 279 ∨ s = 280 ∨ s = 281 ∨ s = 282 ∨ s = 283 ∨ s = 284) := by omega
  · subst h
    go_enter Tryz.func113, Tryz.ntmps113
    go_wp2
    go_ret2
    exact ⟨rfl, rfl⟩
  · have e1 : lenF s = s - 254 := by unfold lenF; rw [if_neg (by omega), if_pos h]
    have e2 : lenE s = 0 := by unfold lenE; rw [if_neg (by omega), if_pos h]
    rw [e1, e2]
    have E := Lib.hid e1
    clear e1 e2
    go_enter Tryz.func113, Tryz.ntmps113
    go_wp2
    go_ret2
    refine ⟨?_, rfl⟩
    have : ((s - 254 : Nat) : Int) = 3 + ((s : Int) - 257) := by omega
    rw [this]; rfl
  · rcases h with rfl | rfl | rfl | rfl | rfl | rfl | rfl | rfl | rfl | rfl | rfl | rfl | rfl | rfl | rfl | rfl | rfl | rfl | rfl | rfl
    all_goals
      go_enter Tryz.func113, Tryz.ntmps113
      go_wp2
      go_ret2
      exact ⟨rfl, rfl⟩

set_option maxRecDepth 100000 in
set_option maxHeartbeats 4000000 in
theorem specDistanceOf (s : Nat) (w : World) (h2 : s < 30) :
    Calls Tryz.prog 114 #[.int .i64 s] w fun e w' => e = .returned (.tuple #[.int .i64 (dstF s : Nat), .int .i64 (dstE s : Nat)]) ∧ w = w' := by
  obtain h | h : s < 4 ∨ (s = 4 ∨ s = 5 ∨ s = 6 ∨ s = 7 ∨ s = 8 ∨ s = 9 ∨ s = 10 ∨ s = 11 ∨ s = 12 ∨ s = 13 ∨ s = 14 ∨ s = 15 ∨ s = 16 ∨ s = 17 ∨ s = 18 ∨ s = 19 ∨ s = 20 ∨ s = 21 ∨ s = 22 ∨ s = 23 ∨ s = 24 ∨ s = 25 ∨ s = 26 ∨ s = 27 ∨ s = 28 ∨ s = 29) := by omega
  · have e1 : dstF s = s + 1 := by unfold dstF; rw [if_pos h]
    have e2 : dstE s = 0 := by unfold dstE; rw [if_pos h]
    rw [e1, e2]
    have E := Lib.hid e1
    clear e1 e2
    go_enter Tryz.func114, Tryz.ntmps114
    go_wp2
    go_ret2
    refine ⟨?_, rfl⟩
    rw [show ((s + 1 : Nat) : Int) = 1 + (s : Int) by omega]; rfl
  · rcases h with rfl | rfl | rfl | rfl | rfl | rfl | rfl | rfl | rfl | rfl | rfl | rfl | rfl | rfl | rfl | rfl | rfl | rfl | rfl | rfl | rfl | rfl | rfl | rfl | rfl | rfl
    all_goals
      go_enter Tryz.func114, Tryz.ntmps114
      go_wp2
      go_ret2
      exact ⟨rfl, rfl⟩
end Go.Proofs.YtnpkgmgedgcjmaaGreatDoor
namespace Go.Proofs.YtnpkgmgedgcjmaaGreatDoor
set_option linter.unusedVariables false
set_option linter.unusedSimpArgs false
open Go.RowKit Go.Png

set_option maxRecDepth 100000 in
set_option maxHeartbeats 4000000 in
theorem specRepeats (w : World) (a : Option Addr) (L c : Nat) (l : List UInt8) (t far : Nat) (hl : l.length = L) (hs : SlB w a l) (hL : L ≤ 1000000000) (hat : t ≤ L) (hf : far ≤ 1000000000) (hf1 : 1 ≤ far) :
    Calls Tryz.prog 99 #[.slice a L c, .int .i64 t, .int .i64 far] w fun e w' => (∃ r : Nat, e = .returned (.int .i64 r) ∧ r ≤ 258 ∧ t + r ≤ L ∧ (0 < r → far ≤ t) ∧ ∀ j, j < r → at_ l (t + j) = at_ l (t + j - far)) ∧ ∃ m, w' = w.drewN m := by
  have HS := Lib.hid hs; have HL := Lib.hid hl
  clear hs hl
  by_cases hfar : far ≤ t
  · go_enter Tryz.func99, Tryz.ntmps99
    go_wp2
    go_loopg [7] (258 - 0) (fun k v7 wr => ∃ j : Nat, j ≤ 258 ∧ t + j ≤ L ∧ k = 258 - j ∧ v7 = .int .i64 j ∧ (∀ i, i < j → at_ l (t + i) = at_ l (t + i - far)) ∧ ∃ m, wr = w.drewN m)
    case atStart => exact ⟨0, by omega, by omega, rfl, rfl, fun i hi => absurd hi (by omega), 0, rfl⟩
    case round =>
      obtain ⟨j, hj, hjl, hkk, rfl, heq, m, rfl⟩ := hrel
      have HEQ := Lib.hid heq; have HK := Lib.hid hkk
      clear heq hkk
      by_cases hlt : j < 258
      · have hlt2 : (j : Int) < 258 := by omega
        by_cases hin : t + j < L
        · obtain ⟨b, off, rfl, hb⟩ := HS.out.some (t + j) (by have := HL.out; omega)
          have c1 := bytes_at hb (t + j) (by have := HL.out; omega)
          have c2 := bytes_at hb (t + j - far) (by have := HL.out; omega)
          have x1 := (at_ l (t + j)).toNat_lt
          have x2 := (at_ l (t + j - far)).toNat_lt
          have hsame : (at_ l (t + j)).toNat = (at_ l (t + j - far)).toNat → at_ l (t + j) = at_ l (t + j - far) := fun h => UInt8.toNat_inj.1 h
          have HSAME := Lib.hid hsame
          clear hb hsame
          have e1 : IntKind.i64.wrap ((t : Int) + (j : Int)) = ((t + j : Nat) : Int) := by rw [IntWalk.i64_in _ (by omega)]; omega
          have e2 : IntKind.i64.wrap (((t + j : Nat) : Int) - (far : Int)) = ((t + j - far : Nat) : Int) := by rw [IntWalk.i64_in _ (by omega)]; omega
          have q1 : ((t + j : Nat) : Int) < (L : Int) := by omega
          have q0 : (0 : Int) ≤ ((t + j : Nat) : Int) := by omega
          have r1 : ((t + j - far : Nat) : Int) < (L : Int) := by omega
          have r0 : (0 : Int) ≤ ((t + j - far : Nat) : Int) := by omega
          generalize hX : (at_ l (t + j)).toNat = X at *
          generalize hY : (at_ l (t + j - far)).toNat = Y at *
          generalize hp : t + j = p at *
          generalize hq : p - far = q at *
          have HP := Lib.hid hp; have HQ := Lib.hid hq; have HX := Lib.hid hX; have HY := Lib.hid hY
          clear hp hq hX hY
          go_wp2
          go_quiet (fail)
          by_cases hxy : X = Y
          · have hb : ((X : Int) == (Y : Int)) = true := by simp [hxy]
            go_wp2
            go_roundg (258 - (j + 1))
            case measure => have := HK.out; omega
            case rel =>
              refine ⟨j + 1, by omega, by have := HP.out; omega, rfl, by go_num, fun i hi => ?_, _, rfl⟩
              by_cases h : i < j
              · exact HEQ.out i h
              · obtain rfl : i = j := by omega
                rw [HP.out, HQ.out]
                exact HSAME.out hxy
          · have hb : ((X : Int) == (Y : Int)) = false := by simp; omega
            go_wp2
            go_ret
            exact ⟨⟨j, rfl, by omega, by have := HP.out; omega, fun _ => hfar, HEQ.out⟩, _, World.drewN_drewN ..⟩
        · have e1 : IntKind.i64.wrap ((t : Int) + (j : Int)) = ((t + j : Nat) : Int) := by rw [IntWalk.i64_in _ (by omega)]; omega
          have q1 : ¬ ((t + j : Nat) : Int) < (L : Int) := by omega
          generalize hp : t + j = p at *
          have HP := Lib.hid hp
          clear hp
          go_wp2
          go_quiet (fail)
          go_wp2
          go_ret
          exact ⟨⟨j, rfl, by omega, by have := HP.out; omega, fun _ => hfar, by have h := HEQ.out; rwa [← HP.out] at *⟩, _, World.drewN_drewN ..⟩
      · obtain rfl : j = 258 := by omega
        go_wp2
        go_quiet (fail)
        go_wp2
        go_ret
        exact ⟨⟨258, rfl, by omega, by omega, fun _ => hfar, HEQ.out⟩, _, World.drewN_drewN ..⟩
  · go_enter Tryz.func99, Tryz.ntmps99
    go_wp2
    go_loopg [7] 1 (fun k v7 wr => k = 1 ∧ v7 = .int .i64 0 ∧ wr = w)
    case atStart => exact ⟨rfl, rfl, rfl⟩
    case round =>
      obtain ⟨rfl, rfl, rfl⟩ := hrel
      go_wp2
      go_quiet (fail)
      go_wp2
      go_ret
      exact ⟨⟨0, rfl, by omega, by omega, fun h => absurd h (by omega), fun j h => absurd h (by omega)⟩, _, rfl⟩
end Go.Proofs.YtnpkgmgedgcjmaaGreatDoor
namespace Go.Proofs.YtnpkgmgedgcjmaaGreatDoor
set_option linter.unusedVariables false
set_option linter.unusedSimpArgs false
open Go.RowKit Go.Png

/-- The last of some symbols whose least value is at most n. -/
def lastLe (F : Nat → Nat) (n s0 : Nat) : Nat → Nat
  | 0 => s0
  | j + 1 => if F (s0 + j + 1) ≤ n then s0 + j + 1 else lastLe F n s0 j
theorem lastLe_le (F : Nat → Nat) (n s0 j : Nat) : s0 ≤ lastLe F n s0 j ∧ lastLe F n s0 j ≤ s0 + j := by
  induction j with
  | zero => exact ⟨Nat.le_refl _, Nat.le_refl _⟩
  | succ j ih => unfold lastLe; split <;> omega
theorem lastLe_spec (F : Nat → Nat) (n s0 j : Nat) (h : F s0 ≤ n) : F (lastLe F n s0 j) ≤ n := by
  induction j with
  | zero => exact h
  | succ j ih => unfold lastLe; split <;> assumption
def lenSym (n : Nat) : Nat := lastLe lenF n 257 28
def dstSym (d : Nat) : Nat := lastLe dstF d 0 29
theorem lenSym_bd (n : Nat) : 257 ≤ lenSym n ∧ lenSym n ≤ 285 := lastLe_le lenF n 257 28
theorem dstSym_bd (d : Nat) : dstSym d ≤ 29 := by have := (lastLe_le dstF d 0 29).2; unfold dstSym; omega
theorem lenSym_le (n : Nat) (h : 3 ≤ n) : lenF (lenSym n) ≤ n := lastLe_spec lenF n 257 28 h
theorem dstSym_le (d : Nat) (h : 1 ≤ d) : dstF (dstSym d) ≤ d := lastLe_spec dstF d 0 29 h
theorem lenE_le (s : Nat) (h : s ≤ 285) : lenE s ≤ 5 := by unfold lenE; split <;> (try split) <;> omega
theorem dstE_le (s : Nat) (h : s ≤ 29) : dstE s ≤ 13 := by unfold dstE; split <;> omega

/-- The bits of a match. -/
def againB (n d : Nat) : List Bool := symB (lenSym n) ++ lsb (n - lenF (lenSym n)) (lenE (lenSym n)) ++ msb (dstSym d) 5 ++ lsb (d - dstF (dstSym d)) (dstE (dstSym d))
theorem againB_length (n d : Nat) : (againB n d).length ≤ 32 := by
  have h1 := symB_length (lenSym n)
  have h2 := lenE_le _ (lenSym_bd n).2
  have h3 := dstE_le _ (dstSym_bd d)
  simp [againB]; omega

set_option maxRecDepth 100000 in
set_option maxHeartbeats 4000000 in
theorem wrAgain (w : World) (W base : Nat) (F : Nat → Prop) (bs : List Bool) (n d : Nat) (h : WrAt w W base F bs) (hbase : base ≤ w.heap.size) (hn : bs.length + 32 ≤ 1000000000) (hn3 : 3 ≤ n) (hn2 : n ≤ 258) (hd1 : 1 ≤ d) (hd : d ≤ 32768) :
    Calls Tryz.prog 101 #[.pointer (some ⟨W, 0, none⟩), .int .i64 n, .int .i64 d] w fun e w' => e = .returned (.tuple #[]) ∧ WrAt w' W base F (bs ++ againB n d) ∧ Mod (Off base F) w w' := by
  have hbd := lenSym_bd n; have hle := lenSym_le n hn3; have hbe := lenE_le _ hbd.2
  have hdd := dstSym_bd d; have hdl := dstSym_le d hd1; have hde := dstE_le _ hdd
  have H := Lib.hid h
  have hls : lenSym n = lastLe lenF n 257 28 := rfl
  have hds : dstSym d = lastLe dstF d 0 29 := rfl
  have hab : againB n d = symB (lenSym n) ++ lsb (n - lenF (lenSym n)) (lenE (lenSym n)) ++ msb (dstSym d) 5 ++ lsb (d - dstF (dstSym d)) (dstE (dstSym d)) := rfl
  have HLS := Lib.hid hls; have HDS := Lib.hid hds; have HAB := Lib.hid hab
  clear hls hds hab
  have HSL := Lib.hid (symB_length (lenSym n))
  have HLN := Lib.hid (specLengthOf (lenSym n) · hbd.1 hbd.2)
  have HDN := Lib.hid (specDistanceOf (dstSym d) · (by omega))
  have HBD := Lib.hid hbd
  clear h hbd
  go_enter Tryz.func101, Tryz.ntmps101
  go_wp2
  go_loopg [6, 7, 8, 9] (28 - 0) (fun k v6 v7 v8 v9 wr => ∃ j : Nat, j ≤ 28 ∧ k = 28 - j ∧ v7 = .int .i64 ((258 + j : Nat) : Int) ∧ v6 = .int .i64 (lastLe lenF n 257 j : Nat) ∧ w = wr)
  case atStart => exact ⟨0, by omega, rfl, rfl, rfl, rfl⟩
  case round =>
    obtain ⟨j, hj, hk, rfl, rfl, rfl⟩ := hrel
    have HK := Lib.hid hk
    clear hk
    by_cases hlt : j < 28
    · have HL := Lib.hid (specLengthOf (258 + j) · (by omega) (by omega))
      have hnx : lastLe lenF n 257 (j + 1) = if lenF (258 + j) ≤ n then 258 + j else lastLe lenF n 257 j := by
        rw [lastLe, show 257 + j + 1 = 258 + j by omega]
      have HNX := Lib.hid hnx
      have hq : ((258 + j : Nat) : Int) ≤ 285 := by omega
      have hw1 : IntKind.i64.wrap (((258 + j : Nat) : Int) + 1) = ((258 + (j + 1) : Nat) : Int) := by rw [IntWalk.i64_in _ (by omega)]; omega
      clear hnx
      generalize lenF (258 + j) = f at *
      generalize 258 + j = p at *
      generalize hp2 : 258 + (j + 1) = p2 at *
      have hp3 : Value.int .i64 (p2 : Int) = Value.int .i64 ((258 + (j + 1) : Nat) : Int) := by rw [hp2]
      have HP2 := Lib.hid hp3
      clear hp2 hp3
      generalize lastLe lenF n 257 j = r at *
      by_cases hc : f ≤ n
      · go_wp2_with (go_at_call 113; refine (HL.out _).mono ?_; rintro e w2 ⟨rfl, rfl⟩)
        go_roundg (28 - (j + 1))
        case measure => have := HK.out; omega
        case rel => exact ⟨j + 1, by omega, rfl, HP2.out, by rw [HNX.out, if_pos hc], rfl⟩
      · go_wp2_with (go_at_call 113; refine (HL.out _).mono ?_; rintro e w2 ⟨rfl, rfl⟩)
        go_roundg (28 - (j + 1))
        case measure => have := HK.out; omega
        case rel => exact ⟨j + 1, by omega, rfl, HP2.out, by rw [HNX.out, if_neg hc], rfl⟩
    · obtain rfl : j = 28 := by omega
      rw [← HLS.out]
      have e0 : ((n : Int) - (lenF (lenSym n) : Nat)) = ((n - lenF (lenSym n) : Nat) : Int) := by omega
      have e1 : ((d : Int) - (dstF (dstSym d) : Nat)) = ((d - dstF (dstSym d) : Nat) : Int) := by omega
      have hsy := wrSymbol w W base F bs (lenSym n) H.out hbase (by omega) (by have := HBD.out; omega)
      have HSY := Lib.hid hsy
      clear hsy
      go_upto_region 9 with (first | (go_at_call 113; refine (HLN.out _).mono ?_; rintro e w2 ⟨rfl, rfl⟩) | (go_at_call 100; refine HSY.out.mono ?_; rintro e w1 ⟨rfl, hw1, m1⟩))
      have hm1 := wrMany w1 W base F _ (n - lenF (lenSym n)) (lenE (lenSym n)) hw1 (by have := m1.size; omega) (by have := HSL.out; simp; omega) (by omega) (by omega)
      have HM1 := Lib.hid hm1; have M1 := Lib.hid m1
      clear hm1 m1 hw1 HSY
      go_wp2_with (fail)
      refine HM1.out.mono ?_
      rintro e w2 ⟨rfl, hw2, m2⟩
      have HW2 := Lib.hid hw2; have M2 := Lib.hid (M1.out.trans m2)
      clear HM1 M1 hw2 m2
      go_wp2
      go_loopg [6, 12, 13, 14] (29 - 0) (fun k v6 v12 v13 v14 wr => ∃ j : Nat, j ≤ 29 ∧ k = 29 - j ∧ v12 = .int .i64 ((1 + j : Nat) : Int) ∧ v6 = .int .i64 (lastLe dstF d 0 j : Nat) ∧ w2 = wr)
      case atStart => exact ⟨0, by omega, rfl, rfl, rfl, rfl⟩
      case round =>
        obtain ⟨j, hj, hk, rfl, rfl, rfl⟩ := hrel
        have HK := Lib.hid hk
        clear hk
        by_cases hlt : j < 29
        · have HL := Lib.hid (specDistanceOf (1 + j) · (by omega))
          have hnx : lastLe dstF d 0 (j + 1) = if dstF (1 + j) ≤ d then 1 + j else lastLe dstF d 0 j := by
            rw [lastLe, show 0 + j + 1 = 1 + j by omega]
          have HNX := Lib.hid hnx
          have hq : ((1 + j : Nat) : Int) < 30 := by omega
          have hw1 : IntKind.i64.wrap (((1 + j : Nat) : Int) + 1) = ((1 + (j + 1) : Nat) : Int) := by rw [IntWalk.i64_in _ (by omega)]; omega
          clear hnx
          generalize dstF (1 + j) = f at *
          generalize 1 + j = p at *
          generalize hp2 : 1 + (j + 1) = p2 at *
          have hp3 : Value.int .i64 (p2 : Int) = Value.int .i64 ((1 + (j + 1) : Nat) : Int) := by rw [hp2]
          have HP2 := Lib.hid hp3
          clear hp2 hp3
          generalize lastLe dstF d 0 j = r at *
          by_cases hc : f ≤ d
          · go_wp2_with (go_at_call 114; refine (HL.out _).mono ?_; rintro e w3 ⟨rfl, rfl⟩)
            go_roundg (29 - (j + 1))
            case measure => have := HK.out; omega
            case rel => exact ⟨j + 1, by omega, rfl, HP2.out, by rw [HNX.out, if_pos hc], rfl⟩
          · go_wp2_with (go_at_call 114; refine (HL.out _).mono ?_; rintro e w3 ⟨rfl, rfl⟩)
            go_roundg (29 - (j + 1))
            case measure => have := HK.out; omega
            case rel => exact ⟨j + 1, by omega, rfl, HP2.out, by rw [HNX.out, if_neg hc], rfl⟩
        · obtain rfl : j = 29 := by omega
          rw [← HDS.out]
          have hwd := wrWord w2 W base F _ (dstSym d) 5 HW2.out (by have := M2.out.size; omega) (by have := HSL.out; simp; omega) (by omega) (by omega)
          have HWD := Lib.hid hwd
          clear hwd
          go_upto_region 19 with (first | (go_at_call 114; refine (HDN.out _).mono ?_; rintro e w3 ⟨rfl, rfl⟩) | (go_at_call 112; refine HWD.out.mono ?_; rintro e w3 ⟨rfl, hw3, m3⟩))
          have hm3 := wrMany w3 W base F _ (d - dstF (dstSym d)) (dstE (dstSym d)) hw3 (by have := M2.out.size; have := m3.size; omega) (by have := HSL.out; simp; omega) (by omega) (by omega)
          have HM3 := Lib.hid hm3; have M3 := Lib.hid (M2.out.trans m3)
          clear hm3 m3 hw3 HWD
          go_wp2_with (fail)
          refine HM3.out.mono ?_
          rintro e w4 ⟨rfl, hw4, m4⟩
          have HW4 := Lib.hid hw4; have M4 := Lib.hid (M3.out.trans m4)
          clear hw4 m4 HM3 M3 HW2 M2
          go_wp2
          go_end0
          refine ⟨rfl, ?_, M4.out⟩
          rw [HAB.out]
          have := HW4.out
          simpa only [List.append_assoc] using this
end Go.Proofs.YtnpkgmgedgcjmaaGreatDoor
