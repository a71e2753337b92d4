/- The reference's writer: sums, numbers in four bytes, chunks. append on bytes that lie in a row whose rest may be written; the bytes of a string. No conditions but those in each theorem's own binders. -/
import Derived.Test.YtnpkgmgedgcjmaaGreatDoorCE13
import Derived.Test.YtnpkgmgedgcjmaaGreatDoorCE17
import Derived.Deep.RegionHeld3
import Derived.Lib.ConvBytes
namespace Go.Proofs.YtnpkgmgedgcjmaaGreatDoor
set_option linter.unusedVariables false
set_option linter.unusedSimpArgs false
open Go.RowKit Go.Png

/-- A slice's address, and bytes that lie there. -/
def SlB (w : World) (a : Option Addr) (l : List UInt8) : Prop := l = [] ∨ ∃ b off, a = some ⟨b, off, none⟩ ∧ Bytes w b off l

theorem SlB.news {w w' : World} {a : Option Addr} {l : List UInt8} (h : SlB w a l) (m : Mod (fun _ => False) w w') : SlB w' a l := by
  rcases h with h | ⟨b, off, h1, h2⟩
  · exact Or.inl h
  · by_cases hl : l = []
    · exact Or.inl hl
    · have h0 : 0 < l.length := List.length_pos_iff.2 hl
      exact Or.inr ⟨b, off, h1, h2.mod m (lt_of_cell (h2 0 h0)) id⟩
theorem SlB.mod {w w' : World} {a : Option Addr} {l : List UInt8} (h : SlB w a l) {S : Nat → Prop} (m : Mod S w w') (hS : ∀ k, k < w.heap.size → ¬ S k) : SlB w' a l := by
  rcases h with h | ⟨b, off, h1, h2⟩
  · exact Or.inl h
  · by_cases hl : l = []
    · exact Or.inl hl
    · have h0 : 0 < l.length := List.length_pos_iff.2 hl
      exact Or.inr ⟨b, off, h1, h2.mod m (lt_of_cell (h2 0 h0)) (hS _ (lt_of_cell (h2 0 h0)))⟩
theorem Own8.slb {w : World} {base g c : Nat} {l : List UInt8} (h : Own8 w base g c l) : SlB w (some ⟨g, 0, none⟩) l := Or.inr ⟨g, 0, rfl, h.bytes⟩

theorem crcBits_succ (n : Nat) : ∀ x, crcBits (n + 1) x = crcBit (crcBits n x) := by
  induction n with
  | zero => intro x; rfl
  | succ n ih => intro x; show crcBits (n + 1) (crcBit x) = _; rw [ih]; rfl

theorem crc_in (c : BitVec 32) (v : UInt8) : bits .xor .u32 (c.toNat : Int) (v.toNat : Int) = ((c ^^^ v.toBitVec.setWidth 32).toNat : Nat) := by
  rw [u32_xor_nat _ _ c.isLt (by have := v.toNat_lt; omega), BitVec.toNat_xor, BitVec.toNat_setWidth]
  have : v.toBitVec.toNat % 2 ^ 32 = v.toNat := Nat.mod_eq_of_lt (by have := v.toNat_lt; show v.toNat < _; omega)
  rw [this]
theorem crc_low (c : BitVec 32) : (bits .and .u32 (c.toNat : Int) 1 == 1) = c.getLsbD 0 := by
  have e : bits .and .u32 (c.toNat : Int) 1 = ((c.toNat % 2 : Nat) : Int) := by
    have := u32_and_nat c.toNat 1 c.isLt (by decide)
    rw [show ((1 : Nat) : Int) = 1 from rfl] at this
    rw [this, Nat.and_one_is_mod]
  rw [e]
  have hb : c.getLsbD 0 = decide (c.toNat % 2 = 1) := by simp [BitVec.getLsbD, Nat.testBit_zero]
  rw [hb]
  by_cases h : c.toNat % 2 = 1
  · simp [h]
  · have : c.toNat % 2 = 0 := by omega
    simp [this]
theorem crc_half (c : BitVec 32) : (c.toNat : Int) / (2 : Int) = (((c >>> 1).toNat : Nat) : Int) := by
  rw [BitVec.toNat_ushiftRight, Nat.shiftRight_eq_div_pow]; omega
theorem crc_poly (c : BitVec 32) : bits .xor .u32 (c.toNat : Int) 3988292384 = ((c ^^^ 0xEDB88320#32).toNat : Nat) := by
  have := u32_xor_nat c.toNat 3988292384 c.isLt (by decide)
  rw [show ((3988292384 : Nat) : Int) = 3988292384 from rfl] at this
  rw [this, BitVec.toNat_xor]; rfl

set_option maxRecDepth 100000 in
set_option maxHeartbeats 1000000 in
theorem specCrc (w : World) (a : Option Addr) (n c : Nat) (l : List UInt8) (hl : l.length = n) (hn : n ≤ 140737488355328) (hs : SlB w a l) :
    Calls Tryz.prog 39 #[.slice a n c] w fun e w' => e = .returned (.int .u32 ((crc l).toNat : Nat)) ∧ w = w' := by
  have HS := Lib.hid hs; have HL := Lib.hid hl
  have hini : (4294967295 : Int) = ((crcUpd (~~~ 0#32) (l.take 0)).toNat : Nat) := by rw [List.take_zero, crcUpd_nil]; rfl
  have HINI := Lib.hid hini
  clear hs hl hini
  go_enter Tryz.func39, Tryz.ntmps39
  go_wp2
  go_loop [3, 5, 8] (fun x v i => ∃ k : Nat, k ≤ n ∧ i = .int .i64 k ∧ x = .int .u32 ((crcUpd (~~~ 0#32) (l.take k)).toNat : Nat)) (fun _ _ i => n - (intOf i).toNat)
  case atStart => exact ⟨0, Nat.zero_le _, rfl, by rw [← HINI.out]⟩
  case round =>
    obtain ⟨k, hk, rfl, rfl⟩ := hrel
    by_cases hlt : k < n
    · have hkl : k < l.length := by have := HL.out; omega
      obtain ⟨b, off, ha, hb⟩ : ∃ b off, a = some ⟨b, off, none⟩ ∧ Bytes w b off l := by
        rcases HS.out with h | h
        · rw [h] at hkl; exact absurd hkl (by simp)
        · exact h
      subst ha
      have hcell := hb k hkl
      have hst : crcUpd (~~~ 0#32) (l.take (k + 1)) = crcBits 8 (crcUpd (~~~ 0#32) (l.take k) ^^^ l[k].toBitVec.setWidth 32) := by
        rw [← List.take_append_getElem hkl, crcUpd_append]; rfl
      have HST := Lib.hid hst; clear hst hb
      generalize crcUpd (~~~ 0#32) (l.take k) = cc at *
      generalize l[k] = v at *
      have hin := crc_in cc v
      generalize cc ^^^ v.toBitVec.setWidth 32 = y at *
      go_wp2
      go_loop [3, 16] (fun x i => ∃ j : Nat, j ≤ 8 ∧ i = .int .i64 j ∧ x = .int .u32 ((crcBits j y).toNat : Nat)) (fun _ i => 8 - (intOf i).toNat)
      case atStart => exact ⟨0, by omega, rfl, by rw [Int.emod_eq_of_lt (by omega) (by have := v.toNat_lt; omega), hin]; rfl⟩
      case round =>
        obtain ⟨j, hj, rfl, rfl⟩ := hrel
        by_cases hjl : j < 8
        · have hsj := crcBits_succ j y
          have HSJ := Lib.hid hsj; clear hsj
          generalize crcBits j y = z at *
          have h1 := crc_low z
          have h2 := crc_half z
          cases hz : z.getLsbD 0 with
          | true =>
            rw [hz] at h1
            have h3 := crc_poly (z >>> 1)
            have hr : crcBit z = (z >>> 1) ^^^ 0xEDB88320#32 := by unfold crcBit; rw [if_pos hz]
            have HR := Lib.hid hr; have H2 := Lib.hid h2; have H3 := Lib.hid h3; clear hr hz hin h2 h3
            generalize (z >>> 1) ^^^ 0xEDB88320#32 = z2 at *
            generalize z >>> 1 = z1 at *
            go_wp2
            go_round
            case rel => exact ⟨j + 1, by omega, by go_num, by rw [HSJ.out, HR.out, H2.out, H3.out]⟩
            case measure => simp [intOf]; omega
          | false =>
            rw [hz] at h1
            have hr : crcBit z = z >>> 1 := by unfold crcBit; rw [if_neg (by rw [hz]; decide)]
            have HR := Lib.hid hr; have H2 := Lib.hid h2; clear hr hz hin h2
            generalize z >>> 1 = z1 at *
            go_wp2
            go_round
            case rel => exact ⟨j + 1, by omega, by go_num, by rw [HSJ.out, HR.out, H2.out]⟩
            case measure => simp [intOf]; omega
        · obtain rfl : j = 8 := by omega
          clear hin
          generalize hy8 : crcBits 8 y = y8 at *
          have HY8 := Lib.hid hy8; clear hy8
          go_wp2
          go_round
          case rel => exact ⟨k + 1, by omega, by go_num, by rw [HST.out]⟩
          case measure => simp [intOf]; omega
    · obtain rfl : k = n := by omega
      have htk : l.take k = l := by rw [← HL.out]; exact List.take_length
      rw [htk]
      have hf : crc l = ~~~ crcUpd (~~~ 0#32) l := rfl
      have HF := Lib.hid hf; clear hf htk
      generalize crcUpd (~~~ 0#32) l = cc at *
      have hn2 := not_u32 cc
      rw [← HF.out] at hn2
      go_wp2
      go_ret
      exact ⟨rfl, rfl⟩

theorem four_bytes (n : Nat) (h : n < 4294967296) : ((n : Int) / (16777216 : Int) % (256 : Int) = (((UInt8.ofNat (n / 16777216)).toNat : Nat) : Int)) ∧ ((n : Int) / (65536 : Int) % (256 : Int) = (((UInt8.ofNat (n / 65536)).toNat : Nat) : Int)) ∧ ((n : Int) / (256 : Int) % (256 : Int) = (((UInt8.ofNat (n / 256)).toNat : Nat) : Int)) ∧ ((n : Int) % (256 : Int) = (((UInt8.ofNat n).toNat : Nat) : Int)) := by
  simp only [UInt8.toNat_ofNat']
  refine ⟨?_, ?_, ?_, ?_⟩ <;> omega

set_option maxRecDepth 100000 in
set_option maxHeartbeats 1000000 in
theorem specFour (w : World) (n : Nat) (h : n < 4294967296) :
    Calls Tryz.prog 38 #[.int .u32 n] w fun e w' => ∃ g, e = .returned (.slice (some ⟨g, 0, none⟩) 4 4) ∧ Own8 w' w.heap.size g 4 (four n) ∧ Mod (fun _ => False) w w' := by
  have H4 := Lib.hid (four_bytes n h)
  go_enter Tryz.func38, Tryz.ntmps38
  go_wp2
  go_ret
  refine ⟨_, rfl, ?_, (Mod.refl _ w).alloc _⟩
  obtain ⟨h1, h2, h3, h4⟩ := H4.out
  have e1 : (n : Int) / 16777216 = (n : Int) / 16777216 % 256 := by omega
  rw [e1, h1, h2, h3, h4]
  exact World.ownsRow_lit (size := 1) w (bytesV (four n)).toArray 4 (Nat.le_refl _) (by unfold maxLen; omega) rfl
end Go.Proofs.YtnpkgmgedgcjmaaGreatDoor
namespace Go.Proofs.YtnpkgmgedgcjmaaGreatDoor
set_option linter.unusedVariables false
set_option linter.unusedSimpArgs false
open Go.RowKit Go.Png

/-- What such an append leaves. -/
structure AppB (g : Nat) (l l2 : List UInt8) (w : World) (g' c' : Nat) (w' : World) : Prop where
  bytes : Bytes w' g' 0 (l ++ l2)
  mod : Mod (fun k => k = g) w w'
  blk : g' = g ∨ g' = w.heap.size
  lt : g' < w'.heap.size

theorem run_append_bytes (ty : TypeId) (w : World) (g n cap : Nat) (l : List UInt8) (hl : l.length = n) (hb : Bytes w g 0 l) (hr : Room w g n (cap - n)) (hnc : n ≤ cap)
    (A : Option Addr) (m c : Nat) (l2 : List UInt8) (hl2 : l2.length = m) (hs : SlB w A l2) (hlim : n + m ≤ 140737488355328) (hA : m = 0 → A = none ∨ ∃ b o, A = some ⟨b, o, none⟩) :
    ∃ g' c' w', (Builtin.append_ #[24, 24] ty #[.slice (some ⟨g, 0, none⟩) n cap, .slice A m c]).run Tryz.prog w = .ok (.slice (some ⟨g', 0, none⟩) (n + m) c') w' ∧ AppB g l l2 w g' c' w' := by
  obtain ⟨i, z, hi, hz, hsz, hby, hzs⟩ := el8.info
  by_cases h0 : m = 0
  · subst h0
    obtain rfl : l2 = [] := List.eq_nil_of_length_eq_zero hl2
    refine ⟨g, cap, w, ?_, ⟨by simpa using hb, Mod.refl _ w, Or.inl rfl, hr.lt⟩⟩
    rcases hA rfl with rfl | ⟨b, o, rfl⟩
    · simp [Builtin.append_, run_underlying el8.ht, sizeOf, typeInfo, hi, Builtin.lenOf, Builtin.firstCells, hnc, storeCells]
    · simp [Builtin.append_, run_underlying el8.ht, sizeOf, typeInfo, hi, Builtin.lenOf, Builtin.firstCells, hnc, storeCells, loadCells, loadCellsFrom, hsz]
  · have hl2p : l2 ≠ [] := fun h => h0 (by rw [← hl2, h]; rfl)
    obtain ⟨b, o, rfl, hb2⟩ : ∃ b o, A = some ⟨b, o, none⟩ ∧ Bytes w b o l2 := by
      rcases hs with h | h
      · exact absurd h hl2p
      · exact h
    have hnews := hb2.src l2.length
    rw [List.take_length] at hnews
    have hlen : (bytesV l2).length = m * i.size := by rw [hsz, bytesV_length, hl2, Nat.mul_one]
    by_cases hroom : n + m ≤ cap
    · have hf := run_firstCells_some (P := Tryz.prog) w i.size m ⟨b, o, none⟩ m c (bytesV l2) hlen hnews
      have hrm : Room w g (0 + n) (bytesV l2).length := by
        have := hr.part 0 m (by omega)
        rw [bytesV_length, hl2, Nat.zero_add]; simpa using this
      have hst := run_storeCells_room Tryz.prog g 0 (bytesV l2) n w hrm (bytesV_one l2)
      have hst2 : (storeCells ⟨g, n, none⟩ (bytesV l2)).run Tryz.prog w = .ok () (setCells w g n (bytesV l2)) := by
        have := run_storeCells_room Tryz.prog g n (bytesV l2) 0 w (by simpa using hrm) (bytesV_one l2)
        simpa using this
      have hw := setCells_wrote g (bytesV l2) n w (by simpa using hrm)
      refine ⟨g, cap, setCells w g n (bytesV l2), ?_, ⟨?_, setCells_mod g _ n w, Or.inl rfl, by rw [setCells_size]; exact hr.lt⟩⟩
      · rw [hsz] at hf
        simp [Builtin.append_, run_underlying el8.ht, sizeOf, typeInfo, hi, Builtin.lenOf, hroom, hf, hsz, addr_add, hst2]
      · intro j hj
        rw [Nat.zero_add, hw.cells j]
        by_cases hjn : j < n
        · rw [if_neg (by omega)]
          have := hb j (by omega)
          rw [Nat.zero_add] at this
          rw [this, List.getElem_append_left (by omega)]
        · have hj2 : j < n + m := by simp at hj; omega
          rw [if_pos ⟨by omega, by rw [bytesV_length]; omega⟩, List.getElem?_eq_getElem (by rw [bytesV_length]; omega), bytesV_get l2 (j - n) (by omega), List.getElem_append_right (by omega)]
          simp only [hl]
    · have hold : ∀ j u, (bytesV l)[j]? = some u → w.cell? ((⟨g, 0, none⟩ : Addr).add j) = some u := by
        have := hb.src l.length
        rwa [List.take_length] at this
      have hxl : (bytesV l).length = n * i.size := by rw [hsz, bytesV_length, hl, Nat.mul_one]
      have hrun := run_append_grow (P := Tryz.prog) w 24 ty 5 i z el8.ht hi hz ⟨g, 0, none⟩ n cap (bytesV l) hxl hold ⟨b, o, none⟩ m c (bytesV l2) hlen hnews (by omega) (by omega) (growslice_fits (by omega) (by rw [hby]; omega))
      refine ⟨w.heap.size, _, _, hrun, ⟨?_, ((Mod.refl _ w).drew).alloc _, Or.inr rfl, by simp⟩⟩
      intro j hj
      rw [Nat.zero_add]
      have hj2 : j < n + m := by simp at hj; omega
      have e0 : (bytesV l).toArray ++ (bytesV l2).toArray = (bytesV (l ++ l2)).toArray := by rw [bytesV_append]; simp
      have e1 : j < (bytesV (l ++ l2)).length := by rw [bytesV_length]; exact hj
      rw [e0]
      show (w.drew.alloc _).cell? ⟨w.drew.heap.size, j, none⟩ = _
      rw [World.cell?_alloc_new, Array.getElem?_append_left (by simpa using hj), List.getElem?_toArray, List.getElem?_eq_getElem e1, bytesV_get _ _ hj]

/-- append on bytes, as a step of the walk. -/
theorem wpList_appB {w : World} {ops : Array Oper} {rest : List Oper} {o : Oper} {a : Act} {Q : Exit → Act → World → Prop} (hgd : o.guard = none) (s x : Operand)
    (ho : o.op = .call { callee := .builtin .append, args := #[s, x], argTypes := #[24, 24] }) (g n cap : Nat) (l : List UInt8) (hl : l.length = n) (hb : Bytes w g 0 l) (hr : Room w g n (cap - n)) (hnc : n ≤ cap)
    (hsv : a.eval s = .slice (some ⟨g, 0, none⟩) n cap) (A : Option Addr) (m c : Nat) (l2 : List UInt8) (hl2 : l2.length = m) (hs : SlB w A l2) (hlim : n + m ≤ 140737488355328) (hA : m = 0 → A = none ∨ ∃ b o, A = some ⟨b, o, none⟩)
    (hxv : a.eval x = .slice A m c) (h : ∀ g' c' w', Hid (AppB g l l2 w g' c' w') → wpList Tryz.prog ops Q rest (a.put o.dst (.slice (some ⟨g', 0, none⟩) (n + m) c')) w') : wpList Tryz.prog ops Q (o :: rest) a w := by
  refine wpList_plain hgd fun K hK => ?_
  obtain ⟨g', c', w', hrun, hap⟩ := run_append_bytes o.type w g n cap l hl hb hr hnc A m c l2 hl2 hs hlim hA
  unfold Oper.wp
  simp [execOp, ho, resolve, invoke, builtin, hsv, hxv, hrun, Result.andThen]
  exact hK _ _ (h g' c' w' (Lib.hid hap))

/-- The bytes of a string, in a row of their own. -/
theorem strBytes (w : World) (l : List UInt8) : ∃ c w', (convert 9 24 (.string (strOf l))).run Tryz.prog w = .ok (.slice (some ⟨w.heap.size, 0, none⟩) l.length c) w' ∧ l.length ≤ c ∧ Bytes w' w.heap.size 0 l ∧
    Room w' w.heap.size l.length (c - l.length) ∧ Mod (fun _ => False) w w' := by
  have hrun := Lib.run_convert_string_bytes (P := Tryz.prog) w 9 24 5 (strOf l) Tryz.underlying9 Tryz.underlying24 Tryz.underlying5
  have hsz : (strOf l).size = l.length := by simp [strOf, ByteArray.size]
  have hge : l.length ≤ grownCap w (strOf l).size 0 5 := by have := grownCap_ge w (strOf l).size 0 5; omega
  have hcs : (Lib.bytesCells w 5 (strOf l)).size = grownCap w (strOf l).size 0 5 := by
    have : (strOf l).data.size = l.length := hsz
    simp [Lib.bytesCells, this, hsz]; rw [hsz] at hge; omega
  refine ⟨grownCap w (strOf l).size 0 5, Lib.bytesWorld w 5 (strOf l), by rw [hrun, hsz], hge, fun j hj => ?_, ⟨by rw [Lib.bytesWorld_size]; omega, fun j hj => ?_⟩, ⟨rfl, rfl, rfl, by rw [Lib.bytesWorld_size]; omega, fun k hk _ => Lib.bytesWorld_at_old w _ _ k hk⟩⟩
  · rw [Nat.zero_add, Lib.bytesWorld_cell w _ _ j (by omega)]
    have : ((strOf l).data.toList.getD j 0) = l[j] := by
      simp [strOf, List.getD_eq_getElem?_getD, hj]
    rw [this]
  · have hjc : l.length + j < (Lib.bytesCells w 5 (strOf l)).size := by rw [hcs]; omega
    refine ⟨?_, ?_⟩
    · simp [World.cell?, Lib.bytesWorld_at_new, hjc]
    · simp [World.frozen?, Lib.bytesWorld_at_new]
      try omega
end Go.Proofs.YtnpkgmgedgcjmaaGreatDoor
