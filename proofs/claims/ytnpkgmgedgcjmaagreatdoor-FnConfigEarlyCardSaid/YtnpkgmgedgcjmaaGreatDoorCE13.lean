/- *bytes.Reader is a source of bytes. A file's bytes as chunks, in plain lists; what the decoder's tests say of them. The decoder reads a chunk of alphas. png.DecodeConfig: the decoder is made, the signature is read, chunks are read until there is enough. No conditions but those in each theorem's own binders. -/
import Derived.Test.YtnpkgmgedgcjmaaGreatDoorCE4
import Derived.Test.YtnpkgmgedgcjmaaGreatDoorCE1
import Derived.StillTailTactics
import Derived.Test.YtnpkgmgedgcjmaaGreatDoorCE5
import Derived.Test.YtnpkgmgedgcjmaaGreatDoorCE12
namespace Go.Proofs.YtnpkgmgedgcjmaaGreatDoor
set_option linter.unusedVariables false
set_option linter.unusedSimpArgs false
open Go.RowKit Go.Png

/-- The reader lies in block RB; its bytes, N in all, in block DB from DO on; l are those that are still to come. -/
structure BrInv (L : Lay) (RB DB DO N cap : Nat) (w : World) (l : List UInt8) : Prop where
  env : Env L w
  loR : L.lo ≤ RB
  loD : L.lo ≤ DB
  ne : RB ≠ DB
  lim : N ≤ 140737488355328
  le : N ≤ cap
  s : w.cell? ⟨RB, 0, none⟩ = some (.slice (some ⟨DB, DO, none⟩) N cap)
  pos : ∃ p : Nat, p + l.length = N ∧ w.cell? ⟨RB, 1, none⟩ = some (.int .i64 (p : Nat)) ∧ Bytes w DB (DO + p) l
  prev : ∃ v, w.cell? ⟨RB, 2, none⟩ = some v
  fz : ∀ o, w.frozen? ⟨RB, o, none⟩ = false
  lt : DB < w.heap.size

def brSrc (L : Lay) (RB DB DO N cap : Nat) : Src :=
  { t := 84, v := .pointer (some ⟨RB, 0, none⟩), f := 216, foot := fun k => k = RB ∨ k = DB, inv := BrInv L RB DB DO N cap }

theorem BrInv.mod {L : Lay} {RB DB DO N cap : Nat} {w w' : World} {l : List UInt8} (h : BrInv L RB DB DO N cap w l) {S : Nat → Prop} (m : Mod S w w') (hS : ∀ k, S k → L.lo ≤ k ∧ ¬ (k = RB ∨ k = DB)) : BrInv L RB DB DO N cap w' l := by
  have hR : ¬ S RB := fun hs => (hS _ hs).2 (Or.inl rfl)
  have hD : ¬ S DB := fun hs => (hS _ hs).2 (Or.inr rfl)
  have c : ∀ o, w'.cell? ⟨RB, o, none⟩ = w.cell? ⟨RB, o, none⟩ := fun o => m.cell (lt_of_cell h.s) hR o
  obtain ⟨p, h1, h2, h3⟩ := h.pos
  obtain ⟨v, hv⟩ := h.prev
  exact ⟨h.env.mod m (fun k hk => (hS k hk).1), h.loR, h.loD, h.ne, h.lim, h.le, (c _).trans h.s, ⟨p, h1, (c _).trans h2, h3.mod m h.lt hD⟩, ⟨v, (c _).trans hv⟩, fun o => (m.frozen (lt_of_cell h.s) hR o).trans (h.fz o), Nat.lt_of_lt_of_le h.lt m.size⟩

set_option maxRecDepth 100000 in
set_option maxHeartbeats 2000000 in
theorem br_end (L : Lay) (RB DB DO N cap : Nat) (w : World) (x : Value) (h : BrInv L RB DB DO N cap w []) :
    Calls Tryz.prog 216 #[.pointer (some ⟨RB, 0, none⟩), x] w fun e w' => e = .returned (.tuple #[.int .i64 0, GErr.eof.val L]) ∧ ∃ n, w' = w.drewN n := by
  obtain ⟨p, h1, c1, _⟩ := h.pos
  have c0 := h.s
  have ce := h.env.eof.1
  obtain rfl : p = N := by simpa using h1
  have hlim := h.lim
  have hcap := h.le
  clear h h1
  change Calls _ _ _ _ fun e w' => e = .returned (.tuple #[.int .i64 0, ptrErr L.eof]) ∧ ∃ n, w' = w.drewN n
  unfold ptrErr at ce ⊢
  go_enter Tryz.func216, Tryz.ntmps216
  go_wp2
  go_quiet (fail)
  go_wp2
  go_quiet (fail)
  go_wp2
  go_ret2
  exact ⟨rfl, _, World.drewN_drewN _ _ _⟩

set_option maxRecDepth 100000 in
set_option maxHeartbeats 2000000 in
theorem br_some (L : Lay) (RB DB DO N cap : Nat) (w : World) (l : List UInt8) (b off n c : Nat) (h : BrInv L RB DB DO N cap w l) (hl : 0 < l.length) (hc : n ≤ c) (hcm : c ≤ 281474976710656)
    (hb : ¬ (b = RB ∨ b = DB)) (hlo : L.lo ≤ b) (hr : Room w b off n) (m : Nat) (hmm : m = min n l.length) :
    Calls Tryz.prog 216 #[.pointer (some ⟨RB, 0, none⟩), .slice (some ⟨b, off, none⟩) n c] w fun e w' =>
      e = .returned (.tuple #[.int .i64 (m : Nat), .nilIface]) ∧ Mod (fun k => (k = RB ∨ k = DB) ∨ k = b) w w' ∧ Wrote b off (bytesV (l.take m)) w w' ∧ BrInv L RB DB DO N cap w' (l.drop m) := by
  obtain ⟨p, h1, c1, hby⟩ := h.pos
  obtain ⟨v, c2⟩ := h.prev
  have c0 := h.s
  have f1 := h.fz 1
  have f2 := h.fz 2
  have hlim := h.lim
  have hcap := h.le
  have hp : p < N := by omega
  have hb1 : b ≠ RB := fun e => hb (Or.inl e)
  have hb2 : b ≠ DB := fun e => hb (Or.inr e)
  have hne := h.ne
  have hltR : RB < w.heap.size := lt_of_cell c0
  have H1 := Lib.hid h1
  have HB := Lib.hid hby
  have HINV := Lib.hid h
  have HMM := Lib.hid hmm
  clear h h1 hby hmm
  have g0 : decide (N ≤ p) = false := decide_eq_false (by omega)
  go_enter Tryz.func216, Tryz.ntmps216
  go_wp2
  go_quiet (fail)
  go_wp2
  have m1 : Mod (fun k => (k = RB ∨ k = DB) ∨ k = b) w ((w.drewN nq).setCell ⟨RB, 2, none⟩ (.int .i64 (-1))) := ((Mod.refl _ w).drewN nq).setCell (Or.inl (Or.inl (Or.inl rfl))) _
  have d0 : ((w.drewN nq).setCell ⟨RB, 2, none⟩ (.int .i64 (-1))).cell? ⟨RB, 0, none⟩ = some (.slice (some ⟨DB, DO, none⟩) N cap) := (World.cell?_setCell_other _ _ _ _ (by simp)).trans c0
  have d1 : ((w.drewN nq).setCell ⟨RB, 2, none⟩ (.int .i64 (-1))).cell? ⟨RB, 1, none⟩ = some (.int .i64 (p : Nat)) := (World.cell?_setCell_other _ _ _ _ (by simp)).trans c1
  have d2 : ((w.drewN nq).setCell ⟨RB, 2, none⟩ (.int .i64 (-1))).cell? ⟨RB, 2, none⟩ = some (.int .i64 (-1)) := World.cell?_setCell_same _ _ _ c2
  have hby1 : Bytes ((w.drewN nq).setCell ⟨RB, 2, none⟩ (.int .i64 (-1))) DB (DO + p) l := fun i hi => (World.cell?_setCell_other _ _ _ _ (fun e => hne (congrArg Addr.block e))).trans (HB.out i hi)
  have hrm : Room ((w.drewN nq).setCell ⟨RB, 2, none⟩ (.int .i64 (-1))) b off n := (hr.drewN nq).mod ((Mod.refl (fun k => k = RB) (w.drewN nq)).setCell (p := ⟨RB, 2, none⟩) (Or.inl rfl) _) hb1
  have hW : ∀ q, q ≠ b → (∀ o, ((w.drewN nq).setCell ⟨RB, 2, none⟩ (.int .i64 (-1))).frozen? ⟨q, o, none⟩ = w.frozen? ⟨q, o, none⟩) := fun q _ o => by simp
  have hwr : ∀ o, ((w.drewN nq).setCell ⟨RB, 2, none⟩ (.int .i64 (-1))).cell? ⟨b, o, none⟩ = w.cell? ⟨b, o, none⟩ := fun o => World.cell?_setCell_other _ _ _ _ (fun e => hb1 (congrArg Addr.block e).symm)
  have hfb : ∀ o, ((w.drewN nq).setCell ⟨RB, 2, none⟩ (.int .i64 (-1))).frozen? ⟨b, o, none⟩ = w.frozen? ⟨b, o, none⟩ := fun o => by simp
  have hfR : ∀ o, ((w.drewN nq).setCell ⟨RB, 2, none⟩ (.int .i64 (-1))).frozen? ⟨RB, o, none⟩ = false := fun o => (hW RB (fun e => hb1 e.symm) o).trans (HINV.out.fz o)
  have M1 := Lib.hid m1; have HB1 := Lib.hid hby1; have HRM := Lib.hid hrm; have HWR := Lib.hid hwr; have HFB := Lib.hid hfb; have HFR := Lib.hid hfR
  have D2 := Lib.hid d2
  clear m1 hby1 hrm hwr hfb hfR hW hr c0 c1 c2 f1 f2 HB d2 g0
  generalize (w.drewN nq).setCell ⟨RB, 2, none⟩ (.int .i64 (-1)) = w1 at *
  have hcp : ¬ (cap = p) := by omega
  have hple : p ≤ N := by omega
  go_still_tail 10, (by kernel_rfl)
  change wpList _ _ _ _ _ w1.drew
  have hlN : l.length = N - p := by have := H1.out; omega
  have HLN := Lib.hid hlN
  clear hlN hcp hple
  have hm : m = Nat.min (N - p) n := by rw [HMM.out, HLN.out]; exact Nat.min_comm _ _
  have HM0 := Lib.hid hm
  clear hm
  refine wpList_copy_bytes rfl (.tmp 20) (.tmp 29) 24 24 rfl 5 Tryz.underlying24 (by kernel_rfl) b off n c DB (DO + p) (N - p) (cap - p) rfl rfl l m HLN.out HM0.out HB1.out HRM.out.drew ?_
  intro w2 HW HM
  have m2 := HM.out.mono (L' := fun k => (k = RB ∨ k = DB) ∨ k = b) (fun _ _ hk => Or.inr hk)
  have hlt1 : RB < w1.heap.size := lt_of_cell d0
  have g0 : w2.cell? ⟨RB, 0, none⟩ = some (.slice (some ⟨DB, DO, none⟩) N cap) := (HM.out.cell (w := w1.drew) hlt1 (fun e => hb1 e.symm) 0).trans d0
  have g1 : w2.cell? ⟨RB, 1, none⟩ = some (.int .i64 (p : Nat)) := (HM.out.cell (w := w1.drew) hlt1 (fun e => hb1 e.symm) 1).trans d1
  have g2 : w2.cell? ⟨RB, 2, none⟩ = some (.int .i64 (-1)) := (HM.out.cell (w := w1.drew) hlt1 (fun e => hb1 e.symm) 2).trans D2.out
  have gf : ∀ o, w2.frozen? ⟨RB, o, none⟩ = false := fun o => (HM.out.frozen (w := w1.drew) hlt1 (fun e => hb1 e.symm) o).trans (HFR.out o)
  have gf1 := gf 1
  have gby : Bytes w2 DB (DO + p) l := Bytes.mod (w := w1.drew) HB1.out HM.out (lt_of_cell (HB1.out 0 hl)) (fun e => hb2 e.symm)
  have GF := Lib.hid gf; have GBY := Lib.hid gby; have G0 := Lib.hid g0; have G2 := Lib.hid g2; have M2 := Lib.hid m2
  clear gf gby g0 g2 m2 d0 d1 D2 HFR HB1 HRM HM
  have hmle : m ≤ l.length := by have := HMM.out; omega
  have hsum : IntKind.i64.wrap ((p : Int) + (m : Int)) = ((p + m : Nat) : Int) := by
    rw [IntWalk.i64_in _ (by have := H1.out; omega)]; omega
  go_wp2
  go_ret2
  have m3 : Mod (fun k => (k = RB ∨ k = DB) ∨ k = b) w2 (w2.setCell ⟨RB, 1, none⟩ (.int .i64 ((p : Int) + (m : Int)))) := (Mod.refl _ w2).setCell (Or.inl (Or.inl (Or.inl rfl))) _
  have mall := (M1.out.trans (show Mod _ w1 w2 from ⟨M2.out.os, M2.out.tape, M2.out.output, M2.out.size, M2.out.block⟩)).trans m3
  have k : ∀ o, o ≠ 1 → (w2.setCell ⟨RB, 1, none⟩ (.int .i64 ((p : Int) + (m : Int)))).cell? ⟨RB, o, none⟩ = w2.cell? ⟨RB, o, none⟩ := fun o ho => World.cell?_setCell_other _ _ _ _ (fun e => ho (congrArg Addr.off e).symm)
  refine ⟨rfl, mall, ⟨fun o => ?_, fun o => ?_⟩, ⟨?_, HINV.out.loR, HINV.out.loD, hne, hlim, hcap, (k 0 (by omega)).trans G0.out, ⟨p + m, ?_, ?_, ?_⟩, ⟨_, (k 2 (by omega)).trans G2.out⟩, fun o => ?_, ?_⟩⟩
  · rw [World.cell?_setCell_other _ _ _ _ (fun e => hb1 (congrArg Addr.block e).symm), HW.out.cells o]
    split
    · rfl
    · exact HWR.out o
  · have h1 := HW.out.frozen o
    have h2 := HFB.out o
    simp only [World.frozen?_setCell]
    exact h1.trans h2
  · exact HINV.out.env.mod mall (fun k hk => by rcases hk with (hk | hk) | hk; exact hk ▸ HINV.out.loR; exact hk ▸ HINV.out.loD; exact hk ▸ hlo)
  · have := H1.out; simp; omega
  · have := World.cell?_setCell_same w2 ⟨RB, 1, none⟩ (.int .i64 ((p : Int) + (m : Int))) g1
    rw [this]; rfl
  · intro i hi
    have hi' : i < l.length - m := by simpa using hi
    have h1 := GBY.out (m + i) (by omega)
    rw [World.cell?_setCell_other _ _ _ _ (fun e => hne (congrArg Addr.block e))]
    have e : DO + (p + m) + i = DO + p + (m + i) := by omega
    rw [e, h1]; simp
  · simpa using GF.out o
  · exact Nat.lt_of_lt_of_le HINV.out.lt mall.size

theorem brSrc_ok (L : Lay) (RB DB DO N cap : Nat) (hlo : L.lo ≤ RB) (hlo2 : L.lo ≤ DB) : (brSrc L RB DB DO N cap).rdr.Ok L where
  nil := fun w => by
    show (nilAhead 501 84 (.pointer (some ⟨RB, 0, none⟩)) "Read").run Tryz.prog w = .ok (some false) w
    kernel_rfl
  meth := fun w => by
    show (method 501 84 (.pointer (some ⟨RB, 0, none⟩)) "Read").run Tryz.prog w = .ok (216, .pointer (some ⟨RB, 0, none⟩)) w
    kernel_rfl
  call := fun args w => by
    show (callFunc 216 args).run Tryz.prog w = .ok (.enter 216 args) w
    kernel_rfl
  frame := fun w w' S s h m hS => BrInv.mod h m hS
  bframe := fun w w' S h m hS => BrInv.mod h m hS
  env := fun w s h => h.env
  benv := fun w h => h.env
  foot := fun k hk => by rcases hk with hk | hk; exact hk ▸ hlo; exact hk ▸ hlo2
  size := fun w s k h hk => by
    rcases hk with hk | hk
    · exact hk ▸ lt_of_cell h.s
    · exact hk ▸ h.lt
  data := fun s n hn => rfl
  fin := fun s n hn => rfl
  adv0 := fun s => rfl
  adv := fun s a b _ => List.drop_drop (l := (show List UInt8 from s))
  read := fun w s b off n c h hn hc hcm hlob hb hr => by
    have h' : BrInv L RB DB DO N cap w s := h
    by_cases hs : 0 < s.length
    · refine (br_some L RB DB DO N cap w s b off n c h' hs hc hcm hb hlob hr _ rfl).mono ?_
      rintro e w' ⟨rfl, h1, h2, h3⟩
      exact ⟨min n s.length, .nilIface, rfl, Nat.min_le_left _ _, Nat.min_le_right _ _, h1, h2, Or.inl ⟨by omega, rfl, h3⟩⟩
    · obtain rfl : s = [] := List.eq_nil_of_length_eq_zero (by omega)
      refine (br_end L RB DB DO N cap w _ h').mono ?_
      rintro e w' ⟨rfl, k, rfl⟩
      exact ⟨0, _, rfl, Nat.zero_le _, Nat.zero_le _, (Mod.refl _ w).drewN k, ⟨fun o => by rw [if_neg (by simp)]; rfl, fun _ => rfl⟩, Or.inr ⟨rfl, rfl, h'.mod (S := fun _ => False) ((Mod.refl _ w).drewN k) (fun _ hf => hf.elim)⟩⟩
end Go.Proofs.YtnpkgmgedgcjmaaGreatDoor
namespace Go.Proofs.YtnpkgmgedgcjmaaGreatDoor
set_option linter.unusedVariables false
set_option linter.unusedSimpArgs false
open Go.RowKit Go.Png

/-- A number in four bytes, the highest first. -/
def four (n : Nat) : List UInt8 := [UInt8.ofNat (n / 16777216), UInt8.ofNat (n / 65536), UInt8.ofNat (n / 256), UInt8.ofNat n]

theorem four_length (n : Nat) : (four n).length = 4 := rfl

theorem beAt_four (n : Nat) (r : List UInt8) (h : n < 4294967296) : beAt (four n ++ r) = n := by
  unfold beAt four be4
  simp
  omega

/-- A chunk: its name and its data. -/
def chunkL (name data : List UInt8) : List UInt8 := four data.length ++ (name ++ (data ++ four (crc (name ++ data)).toNat))

theorem chunkL_length (name data : List UInt8) (hn : name.length = 4) : (chunkL name data).length = 12 + data.length := by
  simp [chunkL, four_length, hn]; omega

theorem crc_lt (l : List UInt8) : (crc l).toNat < 4294967296 := (crc l).isLt

theorem sumOk_four (l r : List UInt8) : sumOk (four (crc l).toNat ++ r) (crc l) = true := by
  unfold sumOk
  rw [beAt_four _ _ (crc_lt l)]
  simp [four_length]

theorem crcW_two (a b : List UInt8) : crcW (crcW 0#32 a) b = crc (a ++ b) := by
  rw [← crcW_append, crcW_zero]

/-- What stands behind a chunk's head. -/
theorem chunk_view (name data r : List UInt8) (hn : name.length = 4) (hd : data.length < 4294967296) :
    8 ≤ (chunkL name data ++ r).length ∧ beAt (chunkL name data ++ r) = data.length ∧ ((chunkL name data ++ r).drop 4).take 4 = name ∧
      (chunkL name data ++ r).drop 8 = data ++ (four (crc (name ++ data)).toNat ++ r) := by
  have e4 : (chunkL name data ++ r).drop 4 = name ++ (data ++ (four (crc (name ++ data)).toNat ++ r)) := by
    unfold chunkL
    simp only [List.append_assoc]
    rw [List.drop_left' (four_length _)]
  refine ⟨by simp [chunkL_length name data hn]; omega, ?_, ?_, ?_⟩
  · unfold chunkL
    rw [List.append_assoc]
    exact beAt_four _ _ hd
  · rw [e4, List.take_left' hn]
  · have : (8 : Nat) = 4 + 4 := rfl
    rw [this, ← List.drop_drop, e4, List.drop_left' hn]

end Go.Proofs.YtnpkgmgedgcjmaaGreatDoor
namespace Go.Proofs.YtnpkgmgedgcjmaaGreatDoor
set_option linter.unusedVariables false
set_option linter.unusedSimpArgs false
open Go.RowKit Go.Png

theorem parsetRNS_pal (L : Lay) (r : Src) (D C : Nat) (s : Sep L r D C) (w : World) (d : Dec) (inp pl : List UInt8) (np n pb : Nat) (hnp : np ≤ 256) (hn : n ≤ np) (hn1 : 1 ≤ n) (hok : trnsOk d inp n)
    (h : St L r D C w { d with pal := .slice (some ⟨pb, 0, none⟩) np 256 } inp) (hp : PalAt L r D C w pb (palE np pl)) (hk : isPal d.cb = true) :
    Calls Tryz.prog 91 #[.pointer (some ⟨D, 0, none⟩), .int .u32 n] w fun e w' => TrnsRes L r D C w d inp pl np n pb e w' := by
  have hk4 : d.cb = 7 ∨ d.cb = 8 ∨ d.cb = 9 ∨ d.cb = 10 := by have := of_decide_eq_true hk; omega
  rcases hk4 with hk | hk | hk | hk
  · exact (parsetRNS_pal7 L r D C s w d inp pl np n pb hnp hn hn1 hok h hp hk)
  · exact (parsetRNS_pal8 L r D C s w d inp pl np n pb hnp hn hn1 hok h hp hk)
  · exact (parsetRNS_pal9 L r D C s w d inp pl np n pb hnp hn hn1 hok h hp hk)
  · exact (parsetRNS_pal10 L r D C s w d inp pl np n pb hnp hn hn1 hok h hp hk)

set_option maxRecDepth 100000 in
set_option maxHeartbeats 8000000 in
theorem chunk_tRNS (L : Lay) (r : Src) (D C : Nat) (s : Sep L r D C) (w : World) (d : Dec) (inp pl : List UInt8) (np n pb : Nat) (cfg : Bool) (hnp : np ≤ 256) (hn : n ≤ np) (hn1 : 1 ≤ n) (hok : trnsOk d inp n)
    (h : St L r D C w { d with pal := .slice (some ⟨pb, 0, none⟩) np 256 } inp) (hp : PalAt L r D C w pb (palE np pl)) (hk : isPal d.cb = true) (hst : d.stage = 2) (hb : Bytes w D 14 ntRNS)
    (u2 u3 u5 u6 u8 u9 u10 u11 u12 u13 u14 u15 u16 u17 u18 u19 u20 u21 u22 u23 u24 u25 u26 u27 u28 u29 u30 u31 u32 u33 u34 u35 u36 u37 u38 u39 u40 u41 u42 u43 u44 u45 u46 u47 u48 u49 u50 u51 u52 u53 u54 u55 u56 u57 u58 u59 u60 u61 u62 u63 u64 u65 u66 u67 u68 u69 u70 u71 u72 u73 u74 u75 u76 u77 u78 u79 u80 u81 u82 u83 u84 u85 u86 u87 u88 u89 u90 u91 u92 u93 u94 u95 u96 u97 u98 u99 u100 u101 u102 u103 u104 u105 u106 u107 u108 u109 u110 u111 u112 u113 u114 u115 u116 u117 u118 u119 u120 u121 u122 u123 u124 u125 u126 u127 u128 u129 u130 u131 u132 u133 u134 u135 u136 u137 u138 u139 u140 u141 u142 u143 u144 u145 u146 u147 u148 u149 u150 u151 u152 u153 u154 u155 u156 u157 u158 u159 u160 u161 u162 u163 u164 u165 u166 u167 u168 u169 u170 u171 u172 u173 u174 u175 u176 u177 u178 u179 u180 u181 u182 u183 u184 u185 u186 u187 u188 u189 u190 u191 u192 u193 u194 u195 u196 u197 u198 u199 u200 u201 u202 u203 u204 u205 u206 u207 u208 : Value) (R : Ending → World → Prop) (hR : ∀ e w', TrnsRes L r D C w { d with stage := 3 } inp pl np n pb e w' → R e w') :
    Code.wp Tryz.prog (navc [1, 1, 1, 1, 1] (textOf Tryz.f65)) (bodyPost Tryz.prog Tryz.f65 R)
        ⟨#[.pointer (some ⟨D, 0, none⟩), .bool cfg, u2, u3, .nilIface, u5, u6, .int .u32 n, u8, u9, u10, u11, u12, u13, u14, u15, u16, u17, u18, u19, u20, u21, u22, u23, u24, u25, u26, u27, u28, u29, u30, u31, u32, u33, u34, u35, u36, u37, u38, u39, u40, u41, u42, u43, u44, u45, u46, u47, u48, u49, u50, u51, u52, u53, u54, u55, u56, u57, u58, u59, u60, u61, u62, u63, u64, u65, u66, u67, u68, u69, u70, u71, u72, u73, u74, u75, u76, u77, u78, u79, u80, u81, u82, u83, u84, u85, u86, u87, u88, u89, u90, u91, u92, u93, u94, u95, u96, u97, u98, u99, u100, u101, u102, u103, u104, u105, u106, u107, u108, u109, u110, u111, u112, u113, u114, u115, u116, u117, u118, u119, u120, u121, u122, u123, u124, u125, u126, u127, u128, u129, u130, u131, u132, u133, u134, u135, u136, u137, u138, u139, u140, u141, u142, u143, u144, u145, u146, u147, u148, u149, u150, u151, u152, u153, u154, u155, u156, u157, u158, u159, u160, u161, u162, u163, u164, u165, u166, u167, u168, u169, u170, u171, u172, u173, u174, u175, u176, u177, u178, u179, u180, u181, u182, u183, u184, u185, u186, u187, u188, u189, u190, u191, u192, u193, u194, u195, u196, u197, u198, u199, u200, u201, u202, u203, u204, u205, u206, u207, u208], []⟩ w := by
  have HR := Lib.hid hR; clear hR
  have hcv := convBytes w D 14 764 4 ntRNS rfl hb
  have e1 : ((strOf ntRNS).toList == [73, 72, 68, 82]) = false := by rw [strOf_toList]; rfl
  have e2 : ((strOf ntRNS).toList == [80, 76, 84, 69]) = false := by rw [strOf_toList]; rfl
  have e3 : ((strOf ntRNS).toList == [116, 82, 78, 83]) = true := by rw [strOf_toList]; rfl
  generalize strOf ntRNS = sg at *
  have c8 := h.dec.stage
  have f8 := h.dec.fz 8
  have c7 := h.dec.cb
  have c8' : w.cell? ⟨D, 8, none⟩ = some (.int .i64 2) := by rw [c8]; show some (Value.int .i64 d.stage) = _; rw [hst]
  have c7' : w.cell? ⟨D, 7, none⟩ = some (.int .i64 d.cb) := c7
  clear c8 c7
  have hpc := cbPaletted w d.cb
  rw [hk] at hpc
  have HPC := Lib.hid hpc; clear hpc
  have hcall : ∀ m, Calls Tryz.prog 91 #[.pointer (some ⟨D, 0, none⟩), .int .u32 n] ((w.drewN m).setCell ⟨D, 8, none⟩ (.int .i64 3)) fun e w' => TrnsRes L r D C ((w.drewN m).setCell ⟨D, 8, none⟩ (.int .i64 3)) { d with stage := 3 } inp pl np n pb e w' := fun m => by
    have st' := (h.drewN s m).setStage s 3
    have pp' : PalAt L r D C ((w.drewN m).setCell ⟨D, 8, none⟩ (.int .i64 3)) pb (palE np pl) := hp.mod (((Mod.refl (foot r D C) w).drewN m).trans (Mod.setD _ _)) hp.foot
    exact parsetRNS_pal L r D C s _ { d with stage := 3 } inp pl np n pb hnp hn hn1 hok st' pp' hk
  have HC := Lib.hid hcall
  clear hcall h hp hk hst hb hok
  conv => arg 2; whnf
  go_wp2_with (first | (go_at_call 66; refine HPC.out.mono ?_; rintro e w2 ⟨he, m, hm⟩; subst he; subst hm) | (go_at_call 91; refine (HC.out _).mono ?_; rintro e w2 hr; have he := hr.end_; subst he; have HR2 := Lib.hid hr; clear hr))
  exact HR.out _ _ ⟨rfl, HR2.out.st, HR2.out.pal, (((Mod.refl _ w).drewN _).trans (show Mod (fun k => foot r D C k ∨ k = pb) _ _ from (Mod.setD _ _).mono (fun _ _ hk => Or.inl hk))).trans HR2.out.mod⟩

end Go.Proofs.YtnpkgmgedgcjmaaGreatDoor
namespace Go.Proofs.YtnpkgmgedgcjmaaGreatDoor
set_option linter.unusedVariables false
set_option linter.unusedSimpArgs false
open Go.RowKit Go.Png

def isZ8 : Option Value → Bool
  | some (.int .u8 n) => n == 0
  | _ => false
theorem isZ8_eq {o : Option Value} (h : isZ8 o = true) : o = some (.int .u8 0) := by
  unfold isZ8 at h
  split at h
  · rename_i n; rw [show n = 0 by simpa using h]
  · cases h

theorem dec0_tmp : ((List.range 768).all fun i => isZ8 (Tryz.zeroCells130[10 + i]?)) = true := by kernel_rfl
theorem dec0_tr : ((List.range 6).all fun i => isZ8 (Tryz.zeroCells130[780 + i]?)) = true := by kernel_rfl

def dec0 : Dec := { img := .nilIface, pal := .slice none 0 0, width := 0, height := 0, depth := 0, cb := 0, stage := 0, idat := 0, ilace := 0, useT := false, tr := fun _ => 0, crc := 0#32 }

theorem dec_new (L : Lay) (r : Src) (hr : r.rdr.Ok L) (w : World) (inp : List UInt8) (hinv : r.inv w inp) (arr : Array Value) (harr : arr = ((Tryz.zeroCells130.setIfInBounds 0 (.iface r.t r.v)).setIfInBounds 2 (.pointer (some ⟨w.heap.size, 0, none⟩)))) :
    St L r (w.heap.size + 1) w.heap.size ((w.alloc (.cells #[.int .u32 0] 126)).alloc (.cells arr 130)) dec0 inp ∧ Sep L r (w.heap.size + 1) w.heap.size := by
  have hsz : (Tryz.zeroCells130).size = 786 := by kernel_rfl
  have hlo : L.lo ≤ w.heap.size := (hr.env w inp hinv).lo
  have hft : ∀ k, r.foot k → k < w.heap.size := fun k hk => hr.size w inp k hinv hk
  have s1 : (w.alloc (.cells #[.int .u32 0] 126)).heap.size = w.heap.size + 1 := by simp
  have cD : ∀ o, ((w.alloc (.cells #[.int .u32 0] 126)).alloc (.cells arr 130)).cell? ⟨w.heap.size + 1, o, none⟩ =
      arr[o]? := fun o => by
    rw [← s1, World.cell?_alloc_new]
  have cC : ((w.alloc (.cells #[.int .u32 0] 126)).alloc (.cells arr 130)).cell? ⟨w.heap.size, 0, none⟩ = some (.int .u32 0) := by
    rw [World.cell?_alloc_old _ _ _ (by rw [s1]; exact Nat.ne_of_lt (Nat.lt_succ_self _)), World.cell?_alloc_new]; rfl
  have z : ∀ o, o ≠ 0 → o ≠ 2 → arr[o]? = Tryz.zeroCells130[o]? := fun o h0 h2 => by
    rw [harr, Array.getElem?_setIfInBounds_ne (Ne.symm h2), Array.getElem?_setIfInBounds_ne (Ne.symm h0)]
  have m : Mod (fun _ => False) w ((w.alloc (.cells #[.int .u32 0] 126)).alloc (.cells arr 130)) := ((Mod.refl _ w).alloc _).alloc _
  refine ⟨⟨⟨?_, ?_, ?_, ?_, ?_, ?_, ?_, ?_, ?_, ?_, ?_, ?_, ?_, ?_, ?_, ?_, ?_⟩, hr.frame w _ _ inp hinv m (fun _ h => h.elim)⟩, ⟨hr, by omega, hlo, by omega, fun h => by have := hft _ h; omega, fun h => by have := hft _ h; omega⟩⟩
  · rw [cD, harr, Array.getElem?_setIfInBounds_ne (by decide), Array.getElem?_setIfInBounds_self_of_lt (by rw [hsz]; decide)]
  · rw [cD, z 1 (by decide) (by decide)]; kernel_rfl
  · rw [cD, harr, Array.getElem?_setIfInBounds_self_of_lt (by rw [Array.size_setIfInBounds, hsz]; decide)]
  · rw [cD, z 3 (by decide) (by decide)]; kernel_rfl
  · rw [cD, z 4 (by decide) (by decide)]; kernel_rfl
  · rw [cD, z 5 (by decide) (by decide)]; kernel_rfl
  · rw [cD, z 6 (by decide) (by decide)]; kernel_rfl
  · rw [cD, z 7 (by decide) (by decide)]; kernel_rfl
  · rw [cD, z 8 (by decide) (by decide)]; kernel_rfl
  · rw [cD, z 9 (by decide) (by decide)]; kernel_rfl
  · rw [cD, z 778 (by decide) (by decide)]; kernel_rfl
  · rw [cD, z 779 (by decide) (by decide)]; kernel_rfl
  · intro i hi
    rw [cD, z (780 + i) (by omega) (by omega)]
    exact isZ8_eq (List.all_eq_true.1 dec0_tr i (List.mem_range.2 hi))
  · intro i hi
    refine ⟨0, ?_⟩
    rw [cD, z (10 + i) (by omega) (by omega)]
    exact isZ8_eq (List.all_eq_true.1 dec0_tmp i (List.mem_range.2 hi))
  · exact cC
  · intro o
    rw [← s1, World.frozen?_alloc_new]
  · rw [World.frozen?_alloc_old _ _ _ (by rw [s1]; exact Nat.ne_of_lt (Nat.lt_succ_self _)), World.frozen?_alloc_new]

end Go.Proofs.YtnpkgmgedgcjmaaGreatDoor
