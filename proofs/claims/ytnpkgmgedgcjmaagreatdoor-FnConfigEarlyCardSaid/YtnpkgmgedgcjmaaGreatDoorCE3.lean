/- io.ReadFull and io.ReadAtLeast read as much as is asked, over any reader. The digest of the decoder keeps the CRC-32. No conditions but those in each theorem's own binders. -/
import Derived.Test.YtnpkgmgedgcjmaaGreatDoorCE2
namespace Go.Proofs.YtnpkgmgedgcjmaaGreatDoor
set_option linter.unusedVariables false
set_option linter.unusedSimpArgs false
open Go.RowKit Go.Png
set_option maxRecDepth 100000 in
set_option maxHeartbeats 2000000 in
theorem readAtLeast (L : Lay) (r : Rdr) (hr : r.Ok L) (w : World) (s : r.σ) (b off n cap : Nat) (hinv : r.inv w s) (hn : 0 < n) (hc : n ≤ cap) (hcap : cap ≤ 281474976710656)
   (hb : L.lo ≤ b) (hbf : ¬ r.foot b) (hroom : Room w b off n) :
    Calls Tryz.prog 106 #[.iface r.t r.v, .slice (some ⟨b, off, none⟩) n cap, .int .i64 n] w fun e w' => ∃ m err, FullPost L r w s b off n e w' m err := by
  go_enter Tryz.func106, Tryz.ntmps106
  go_wp2
  go_loopg [6, 7, 8] (2 * n + 1) (fun k v6 v7 _ wr => ∃ m err, v6 = .int .i64 (m : Nat) ∧ v7 = err ∧ FullRel L r w s b off n wr m err ∧ 2 * (n - m) ≤ k ∧ (err = .nilIface → 2 * (n - m) + 1 ≤ k))
  case atStart =>
    exact ⟨0, .nilIface, rfl, rfl, ⟨by omega, by omega, Mod.refl _ _, by simpa [bytesV] using Wrote.nil b off w, Or.inl ⟨rfl, by rw [hr.adv0]; exact hinv⟩⟩, by omega, fun _ => by omega⟩
  case round =>
    obtain ⟨m, err, rfl, rfl, hrel, hk1, hk2⟩ := hrel
    have hml := hrel.le
    by_cases hm : m < n
    · rcases hrel.kind with ⟨he, hi⟩ | ⟨h1, h2, h3⟩
      · subst he
        go_wp2
        have hnil := hr.nil
        have hmeth := hr.meth
        have hcall := hr.call
        have hrd := hr.read wr.drew (r.adv s m) b (off + m) (n - m) (cap - m) (hr.drew hi) (by omega) (by omega) (by omega) hb hbf ((hroom.wrote hrel.wrote hrel.mod.size).part m (n - m) (by omega)).drew
        have HR := Lib.hid hrd; clear hrd
        have HREL := Lib.hid hrel; clear hrel
        clear hi
        go_region_with (refine HR.out.mono ?_; rintro e w1 ⟨m1, err, hp⟩; obtain rfl := hp.end_; have hle := hp.le; have HP := Lib.hid hp; clear hp; go_simp)
        all_goals
          go_wp2
          have hp := HP.out.undrew
          have hs := FullRel.step hr HREL.out hp hml
          rcases hp.kind with ⟨h1, h4, _⟩ | ⟨_, h2, _⟩
          · go_roundg (2 * (n - (m + m1)) + 1)
            case measure => have := hk2 trivial; omega
            case rel => exact ⟨m + m1, err, by go_num, rfl, hs, by omega, fun _ => by omega⟩
          · obtain ⟨t, v, hv⟩ := GErr.val_iface L (r.fin (r.adv s m))
            go_roundg (2 * (n - (m + m1)))
            case measure => have := hk2 trivial; omega
            case rel => exact ⟨m + m1, err, by go_num, rfl, hs, by omega, fun he => by rw [h2, hv] at he; cases he⟩
      · obtain ⟨t, v, hv⟩ := GErr.val_iface L (r.fin s)
        have henv := hr.benv _ h3
        have hE := henv.eqlEof (r.fin s)
        have cE := henv.eof.1
        have cU := henv.unexp.1
        rw [hv] at hE h2
        subst h2
        have HREL := Lib.hid hrel; clear hrel
        have HV := Lib.hid hv; clear hv
        have h1' : (r.data s).length < n := by omega
        have H1 := Lib.hid h1; clear h1
        have fin : ∀ g : GErr, (g = r.fin s ∨ (r.fin s = .eof ∧ 0 < m ∧ g = .unexp)) → FullPost L r w s b off n (.returned (.tuple #[.int .i64 m, g.val L])) wr m (g.val L) := fun g hg =>
          ⟨rfl, HREL.out.mod, HREL.out.wrote, Or.inr ⟨H1.out, h1', ⟨g, rfl, hg⟩, h3⟩⟩
        have FIN := Lib.hid fin; clear fin
        have fin0 := FIN.out (r.fin s) (Or.inl rfl)
        rw [HV.out] at fin0
        have FIN0 := Lib.hid fin0; clear fin0
        by_cases h0 : 0 < m
        · cases he : (r.fin s).isEof with
          | true =>
            rw [he] at hE
            have fin1 := FIN.out .unexp (Or.inr ⟨GErr.eof_of he, h0, rfl⟩)
            have FIN1 := Lib.hid fin1; clear fin1 he
            go_wp2
            go_ret2
            exact ⟨m, _, FIN1.out⟩
          | false =>
            rw [he] at hE
            clear he
            go_wp2
            go_ret2
            exact ⟨m, _, FIN0.out⟩
        · go_wp2
          go_ret2
          exact ⟨m, _, FIN0.out⟩
    · obtain rfl : m = n := by omega
      have HREL := Lib.hid hrel; clear hrel
      go_wp2
      go_ret2
      have hk := HREL.out.kind
      refine ⟨m, .nilIface, rfl, HREL.out.mod, HREL.out.wrote, Or.inl ⟨rfl, HREL.out.len, rfl, ?_⟩⟩
      rcases hk with ⟨_, h⟩ | ⟨h1, _, h3⟩
      · exact Or.inl h
      · exact Or.inr ⟨h1, h3⟩

set_option maxRecDepth 100000 in
set_option maxHeartbeats 1000000 in
theorem readFull (L : Lay) (r : Rdr) (hr : r.Ok L) (w : World) (s : r.σ) (b off n cap : Nat) (hinv : r.inv w s) (hn : 0 < n) (hc : n ≤ cap) (hcap : cap ≤ 281474976710656)
   (hb : L.lo ≤ b) (hbf : ¬ r.foot b) (hroom : Room w b off n) :
    Calls Tryz.prog 84 #[.iface r.t r.v, .slice (some ⟨b, off, none⟩) n cap] w fun e w' => ∃ m err, FullPost L r w s b off n e w' m err := by
  go_enter Tryz.func84, Tryz.ntmps84
  go_wp2_with (refine (readAtLeast L r hr w s b off n cap hinv hn hc hcap hb hbf hroom).mono ?_; rintro e w1 ⟨m, err, hp⟩; obtain rfl := hp.end_; have HP := Lib.hid hp; clear hp)
  go_ret2
  exact ⟨m, err, HP.out⟩
end Go.Proofs.YtnpkgmgedgcjmaaGreatDoor
namespace Go.Proofs.YtnpkgmgedgcjmaaGreatDoor
set_option linter.unusedVariables false
set_option linter.unusedSimpArgs false
open Go.RowKit Go.Png

theorem not_u32 (c : BitVec 32) : bits .xor .u32 IntKind.u32.max (c.toNat : Int) = ((~~~ c).toNat : Nat) := by
  have e : IntKind.u32.max = ((4294967295 : Nat) : Int) := by decide
  rw [e, u32_xor_nat _ _ (by omega) c.isLt]
  have : (~~~ c) = 4294967295#32 ^^^ c := by
    apply BitVec.eq_of_getLsbD_eq
    intro i hi
    have h1 : (4294967295#32).getLsbD i = true := by
      rw [show (4294967295#32 : BitVec 32) = BitVec.allOnes 32 by decide, BitVec.getLsbD_allOnes]; simp [hi]
    rw [BitVec.getLsbD_xor, h1, BitVec.getLsbD_not]; simp [hi]
  rw [this, BitVec.toNat_xor]; rfl

theorem crc_idx (c : BitVec 32) (v : UInt8) : bits .xor .u8 ((c.toNat : Int) % 256) (v.toNat : Int) = ((c.setWidth 8 ^^^ v.toBitVec).toNat : Nat) := by
  have e : (c.toNat : Int) % 256 = ((c.toNat % 256 : Nat) : Int) := by omega
  rw [e, u8_xor_nat _ _ (by omega) v.toNat_lt]
  rw [BitVec.toNat_xor, BitVec.toNat_setWidth]; rfl

theorem crc_step (c : BitVec 32) (v : UInt8) : bits .xor .u32 ((crcTab (c.setWidth 8 ^^^ v.toBitVec)).toNat : Int) ((c.toNat : Int) / 256) = ((crcByte c v).toNat : Nat) := by
  have e : (c.toNat : Int) / 256 = ((c.toNat / 256 : Nat) : Int) := by omega
  rw [e, u32_xor_nat _ _ (BitVec.isLt _) (by have := c.isLt; omega), crcByte_tab, BitVec.toNat_xor, BitVec.toNat_ushiftRight, Nat.shiftRight_eq_div_pow]

set_option maxHeartbeats 400000 in
theorem crcWrite (L : Lay) (w : World) (he : Env L w) (C b off cap : Nat) (c : BitVec 32) (p : List UInt8) (hp : p.length ≤ 281474976710656) (hc : w.cell? ⟨C, 0, none⟩ = some (.int .u32 (c.toNat : Nat)))
   (hf : w.frozen? ⟨C, 0, none⟩ = false) (hb : Bytes w b off p) :
   Calls Tryz.prog 87 #[.pointer (some ⟨C, 0, none⟩), .slice (some ⟨b, off, none⟩) p.length cap] w fun e w' => e = .returned (.tuple #[.int .i64 p.length, .nilIface]) ∧ w.setCell ⟨C, 0, none⟩ (.int .u32 ((crcW c p).toNat : Nat)) = w' := by
  have hn := not_u32 c
  have hfin : ∀ cc : BitVec 32, cc = crcUpd (~~~ c) p → crcW c p = ~~~ cc := fun cc h => by rw [h]; rfl
  have HFIN := Lib.hid hfin; clear hfin
  generalize hc0 : ~~~ c = c0 at *
  have HC0 := Lib.hid hc0; clear hc0
  go_enter Tryz.func87, Tryz.ntmps87
  go_wp2
  clear hn
  go_loop [6, 16] (fun c6 i => ∃ k : Nat, k ≤ p.length ∧ i = .int .i64 k ∧ c6 = .int .u32 ((crcUpd c0 (p.take k)).toNat : Nat)) (fun _ i => p.length - (intOf i).toNat)
  case atStart => exact ⟨0, Nat.zero_le _, rfl, rfl⟩
  case round =>
    obtain ⟨k, hk, rfl, rfl⟩ := hrel
    by_cases hlt : k < p.length
    · have hcell := hb k hlt
      have hst : crcUpd c0 (p.take (k + 1)) = crcByte (crcUpd c0 (p.take k)) p[k] := by
        rw [← List.take_append_getElem hlt, crcUpd_append]; rfl
      have HST := Lib.hid hst; clear hst
      generalize crcUpd c0 (p.take k) = cc at *
      generalize p[k] = v at *
      have hi := crc_idx cc v
      have hs := crc_step cc v
      have htab := he.tab (cc.setWidth 8 ^^^ v.toBitVec).toNat (BitVec.isLt _)
      rw [BitVec.ofNat_toNat, BitVec.setWidth_eq] at htab
      have hlt2 : (cc.setWidth 8 ^^^ v.toBitVec).toNat < 256 := BitVec.isLt _
      generalize (cc.setWidth 8 ^^^ v.toBitVec) = ix at *
      generalize ix.toNat = ixn at *
      go_wp2
      go_round
      case rel => exact ⟨k + 1, by omega, by go_num, by rw [HST.out]⟩
      case measure => simp [intOf]; omega
    · obtain rfl : k = p.length := by omega
      have htk : p.take p.length = p := List.take_length
      rw [htk]
      have hn2 := not_u32 (crcUpd c0 p)
      have hf2 := HFIN.out _ rfl
      rw [← hf2] at hn2
      have HF2 := Lib.hid hf2; clear hf2 htk
      generalize crcUpd c0 p = cc at *
      go_wp2
      go_ret2
      exact ⟨rfl, rfl⟩
end Go.Proofs.YtnpkgmgedgcjmaaGreatDoor
