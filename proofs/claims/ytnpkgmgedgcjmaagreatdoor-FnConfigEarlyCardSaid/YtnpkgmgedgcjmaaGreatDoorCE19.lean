/- The reference's Chunk. The reference's small functions: kinds, shapes, parts. The reference's small functions: sizes of parts, of rows; colors of 16 bits. No conditions but those in each theorem's own binders. -/
import Derived.Test.YtnpkgmgedgcjmaaGreatDoorCE18
namespace Go.Proofs.YtnpkgmgedgcjmaaGreatDoor
set_option linter.unusedVariables false
set_option linter.unusedSimpArgs false
open Go.RowKit Go.Png

/-- An append of bytes on an own slice of bytes. -/
theorem wpList_app8 {w : World} {ops : Array Oper} {rest : List Oper} {o : Oper} {a : Act} {Q : Exit → Act → World → Prop} (hgd : o.guard = none) (s x : Operand)
    (ho : o.op = .call { callee := .builtin .append, args := #[s, x], argTypes := #[24, 24] }) (base g0 n c0 : Nat) (l : List UInt8) (hl : l.length = n) (hsv : a.eval s = .slice (some ⟨g0, 0, none⟩) n c0) (hown : Own8 w base g0 c0 l)
    (A : Option Addr) (m c : Nat) (l2 : List UInt8) (hl2 : l2.length = m) (hs : SlB w A l2) (hxv : a.eval x = .slice A m c) (hA : m = 0 → (A = none ∧ c = 0) ∨ ∃ b o, A = some ⟨b, o, none⟩) (hlim : n + m ≤ 140737488355328) (hbase : base ≤ w.heap.size)
    (h : ∀ g' c' w', Hid (Own8 w' base g' c' (l ++ l2)) → Hid (Mod (fun k => k = g0) w w') → Hid (g' = g0 ∨ g' = w.heap.size) → wpList Tryz.prog ops Q rest (a.put o.dst (.slice (some ⟨g', 0, none⟩) (n + m) c')) w') : wpList Tryz.prog ops Q (o :: rest) a w := by
  subst hl
  have fin : ∀ (b off : Nat), A = some ⟨b, off, none⟩ → (∀ j u, (bytesV l2)[j]? = some u → w.cell? ((⟨b, off, none⟩ : Addr).add j) = some u) → wpList Tryz.prog ops Q (o :: rest) a w := by
    intro b off hAe hnews
    subst hAe
    refine wpList_app el8 hgd s x ho base _ l.length (bytesV l) hsv hown ⟨b, off, none⟩ m c (bytesV l2) hxv (by rw [bytesV_length, hl2, Nat.mul_one]) hnews (bytesV_one l2) (Or.inl (by simp)) (by omega) (by omega) hbase ?_
    intro g c' w' hap
    refine h g c' w' (Lib.hid (Appd.own8 hl2 hap.out)) (Lib.hid (hap.out.mod.mono (fun k _ hk => by simp [Value.ownBlock] at hk; exact hk.symm))) (Lib.hid ?_)
    rcases hap.out.blk with hb | hb
    · simp [Value.ownBlock] at hb; exact Or.inl hb.symm
    · exact Or.inr hb
  by_cases h0 : l2 = []
  · subst h0
    obtain rfl : m = 0 := hl2.symm
    rcases hA rfl with ⟨rfl, rfl⟩ | ⟨b, off, hAe⟩
    · refine wpList_app_nil el8 hgd s x ho base _ l.length (bytesV l) hsv hown hxv ?_
      exact h g0 c0 w (Lib.hid (by simpa using hown)) (Lib.hid (Mod.refl _ w)) (Lib.hid (Or.inl rfl))
    · exact fin b off hAe (fun j u hu => by simp [bytesV] at hu)
  · rcases hs with hs | ⟨b, off, hAe, hb⟩
    · exact absurd hs h0
    · refine fin b off hAe ?_
      have := hb.src l2.length
      rwa [List.take_length] at this

set_option maxRecDepth 100000 in
set_option maxHeartbeats 1000000 in
theorem specChunk (w : World) (name l : List UInt8) (a : Option Addr) (m c : Nat) (hnl : name.length = 4) (hl : l.length = m) (hs : SlB w a l) (hA : m = 0 → (a = none ∧ c = 0) ∨ ∃ b o, a = some ⟨b, o, none⟩) (hm : m ≤ 2147483648) :
    Calls Tryz.prog 18 #[.string (strOf name), .slice a m c] w fun e w' => ∃ g c', e = .returned (.slice (some ⟨g, 0, none⟩) (12 + m) c') ∧ Own8 w' w.heap.size g c' (chunkL name l) ∧ Mod (fun _ => False) w w' := by
  obtain ⟨c0, w1, hcv, hc0, hb1, hr1, m1⟩ := strBytes w name
  rw [hnl] at hcv hc0 hr1
  have HS := Lib.hid hs; have HL := Lib.hid hl; have HN := Lib.hid hnl; have HB1 := Lib.hid hb1; have HR1 := Lib.hid hr1; have HM1 := Lib.hid m1; have HA := Lib.hid hA
  clear hs hl hnl hb1 hr1 m1 hA
  go_enter Tryz.func18, Tryz.ntmps18
  go_wp2_with (at_builtin; go_must (refine wpList_appB rfl (.tmp 7) (.tmp 8) rfl w.heap.size 4 c0 name HN.out HB1.out HR1.out hc0 rfl a m c l HL.out (HS.out.news HM1.out) (by omega) (fun h => (HA.out h).imp And.left id) rfl ?_; intro g2 c2 w2 hap))
  have hbody := hap.out.bytes
  have hblen : (name ++ l).length = 4 + m := by have := HN.out; have := HL.out; simp; omega
  have m2 : Mod (fun _ => False) w w2 := HM1.out.then hap.out.mod (fun k hk he => by omega)
  have hltb := hap.out.lt
  have HBODY := Lib.hid hbody; have HBL := Lib.hid hblen; have HM2 := Lib.hid m2
  clear hbody hblen m2 hap HM1 HB1 HR1 hcv
  refine (specFour w2 m (by omega)).mono ?_
  rintro e w3 ⟨g3, rfl, own3, m3⟩
  have hb3 : Bytes w3 g2 0 (name ++ l) := HBODY.out.mod m3 hltb id
  have m3' : Mod (fun _ => False) w w3 := HM2.out.trans m3
  have hne : g2 ≠ g3 := by have := own3.base; omega
  have own3' := own3.mono HM2.out.size
  have hl3 := m3.size
  have hlt3 := own3.base
  have HB3 := Lib.hid hb3; have HM3 := Lib.hid m3'; have HO3 := Lib.hid own3'
  clear hb3 m3' own3 own3' m3 HBODY HM2 HS
  go_wp2_with (at_builtin; go_must (refine wpList_app8 rfl (.tmp 13) (.tmp 14) rfl w.heap.size g3 4 4 (four m) (four_length m) rfl HO3.out (some ⟨g2, 0, none⟩) (4 + m) c2 (name ++ l) HBL.out (Or.inr ⟨g2, 0, rfl, HB3.out⟩) rfl (fun _ => Or.inr ⟨_, _, rfl⟩) (by omega) HM3.out.size ?_; intro g4 c4 w4 hown4 hm4 hg4))
  have hb4 : Bytes w4 g2 0 (name ++ l) := HB3.out.mod hm4.out (by omega) hne
  have m4 : Mod (fun _ => False) w w4 := HM3.out.then hm4.out (fun k hk he => by have := HO3.out.base; omega)
  have hlt4 := hm4.out.size
  have hne4 : g2 ≠ g4 := by rcases hg4.out with h | h <;> omega
  have HB4 := Lib.hid hb4; have HM4 := Lib.hid m4
  clear hb4 m4 HB3 HM3 HO3 hm4
  have hcrc := specCrc w4 (some ⟨g2, 0, none⟩) (4 + m) c2 (name ++ l) HBL.out (by omega) (Or.inr ⟨g2, 0, rfl, HB4.out⟩)
  refine hcrc.mono ?_
  rintro e w4 ⟨rfl, rfl⟩
  clear hcrc
  have hown4b := hown4.out.base
  have H4B := Lib.hid hown4b
  clear hown4b
  generalize hcc : (crc (name ++ l)).toNat = cc at *
  have hcclt : cc < 4294967296 := by rw [← hcc]; exact crc_lt _
  have HCC := Lib.hid hcc
  clear hcc
  go_wp2_with (fail)
  refine (specFour w4 cc hcclt).mono ?_
  rintro e w5 ⟨g5, rfl, own5, m5⟩
  have hown5 := hown4.out.mod m5 id
  have hb5 : SlB w5 (some ⟨g5, 0, none⟩) (four cc) := own5.slb
  have m5' : Mod (fun _ => False) w w5 := HM4.out.trans m5
  have HO5 := Lib.hid hown5; have HB5 := Lib.hid hb5; have HM5 := Lib.hid m5'
  have hfl : (four m ++ (name ++ l)).length = 4 + (4 + m) := by have := HN.out; have := HL.out; simp [four_length]; omega
  have HFL := Lib.hid hfl
  clear hown5 hb5 m5' own5 m5 hown4 HM4 HB4 hfl
  go_wp2_with (at_builtin; go_must (refine wpList_app8 rfl (.tmp 15) (.tmp 18) rfl w.heap.size g4 (4 + (4 + m)) c4 (four m ++ (name ++ l)) HFL.out rfl HO5.out (some ⟨g5, 0, none⟩) 4 4 (four cc) (four_length cc) HB5.out rfl (fun h => absurd h (by decide)) (by omega) HM5.out.size ?_; intro g6 c6 w6 hown6 hm6 hg6))
  go_ret
  have e12 : 4 + (4 + m) + 4 = 12 + m := by omega
  refine ⟨g6, c6, by rw [e12]; rfl, ?_, HM5.out.then hm6.out (fun k hk he => by have := H4B.out; omega)⟩
  have he : chunkL name l = four m ++ (name ++ l) ++ four cc := by
    unfold chunkL; rw [HL.out, HCC.out]; simp
  rw [he]
  exact hown6.out
end Go.Proofs.YtnpkgmgedgcjmaaGreatDoor
namespace Go.Proofs.YtnpkgmgedgcjmaaGreatDoor
set_option linter.unusedVariables false
set_option linter.unusedSimpArgs false
open Go.RowKit Go.Png

def colK (k : Nat) : Nat := [0, 0, 0, 0, 0, 2, 2, 3, 3, 3, 3, 4, 4, 6, 6].getD k 0
def depK (k : Nat) : Nat := [1, 2, 4, 8, 16, 8, 16, 1, 2, 4, 8, 8, 16, 8, 16].getD k 0

set_option maxRecDepth 100000 in
set_option maxHeartbeats 1000000 in
theorem lawsKindOf (w : World) (n : Nat) (hn : n < 256) :
    Calls Tryz.prog 34 #[.int .u8 n] w fun e w' => e = .returned (.tuple #[.int .i64 (colK (n % 15) : Nat), .int .i64 (depK (n % 15) : Nat)]) ∧ ∃ m, w' = w.drewN m := by
  have ht : (n : Int).tmod 15 = ((n % 15 : Nat) : Int) := by rw [Int.tmod_eq_emod_of_nonneg (by omega)]; omega
  have hk : n % 15 < 15 := Nat.mod_lt _ (by decide)
  generalize n % 15 = k at *
  have h : k = 0 ∨ k = 1 ∨ k = 2 ∨ k = 3 ∨ k = 4 ∨ k = 5 ∨ k = 6 ∨ k = 7 ∨ k = 8 ∨ k = 9 ∨ k = 10 ∨ k = 11 ∨ k = 12 ∨ k = 13 ∨ k = 14 := by omega
  clear hk
  rcases h with rfl | rfl | rfl | rfl | rfl | rfl | rfl | rfl | rfl | rfl | rfl | rfl | rfl | rfl | rfl
  all_goals
    go_enter Tryz.func34, Tryz.ntmps34
    go_wp2
    go_quiet (fail)
    go_wp2
    go_ret2
    exact ⟨rfl, _, rfl⟩

/-- What the head of a file tells. -/
structure Shp where
  wide : Nat
  high : Nat
  depth : Nat
  colour : Nat
  laced : Bool

def Shp.cells (s : Shp) : List Value := [.int .i64 s.wide, .int .i64 s.high, .int .i64 s.depth, .int .i64 s.colour, .bool s.laced]
def Shp.val (s : Shp) : Value := .agg #[.int .i64 s.wide, .int .i64 s.high, .int .i64 s.depth, .int .i64 s.colour, .bool s.laced]

set_option maxRecDepth 100000 in
set_option maxHeartbeats 1000000 in
theorem lawsShapeOf (w : World) (colour depth wide high : Nat) (laced : Bool) (hw : wide < 256) (hh : high < 256) :
    Calls Tryz.prog 35 #[.int .i64 colour, .int .i64 depth, .int .u8 wide, .int .u8 high, .bool laced] w fun e w' => e = .returned (Shp.val ⟨1 + wide % 40, 1 + high % 40, depth, colour, laced⟩) ∧ Mod (fun _ => False) w w' := by
  have h1 : (wide : Int).tmod 40 = ((wide % 40 : Nat) : Int) := by rw [Int.tmod_eq_emod_of_nonneg (by omega)]; omega
  have h2 : (high : Int).tmod 40 = ((high % 40 : Nat) : Int) := by rw [Int.tmod_eq_emod_of_nonneg (by omega)]; omega
  have h3 : wide % 40 < 40 := Nat.mod_lt _ (by decide)
  have h4 : high % 40 < 40 := Nat.mod_lt _ (by decide)
  generalize wide % 40 = wd at *
  generalize high % 40 = hg at *
  go_enter Tryz.func35, Tryz.ntmps35
  go_wp2
  refine bodyPost_ret (v := Shp.val ⟨1 + wd, 1 + hg, depth, colour, laced⟩) ?_ rfl ⟨rfl, (Mod.refl _ w).alloc _⟩
  simp [results, Tryz.results35, go_sem, Shp.val]

def chanN (c : Nat) : Nat := if c = 2 then 3 else if c = 4 then 2 else if c = 6 then 4 else 1
/-- A colour type that there is. -/
def ColOk (c : Nat) : Prop := c = 0 ∨ c = 2 ∨ c = 3 ∨ c = 4 ∨ c = 6

set_option maxRecDepth 100000 in
theorem specChannels (w : World) (c : Nat) (hc : ColOk c) : Calls Tryz.prog 36 #[.int .i64 c] w fun e w' => e = .returned (.int .i64 (chanN c : Nat)) ∧ w = w' := by
  rcases hc with rfl | rfl | rfl | rfl | rfl
  all_goals
    go_enter Tryz.func36, Tryz.ntmps36
    go_wp2
    go_ret
    exact ⟨rfl, rfl⟩

theorem specPasses (w : World) (b : Bool) : Calls Tryz.prog 72 #[.bool b] w fun e w' => e = .returned (.int .i64 ((if b then 7 else 1 : Nat) : Nat)) ∧ w = w' := by
  cases b
  all_goals
    go_enter Tryz.func72, Tryz.ntmps72
    go_wp2
    go_ret
    exact ⟨rfl, rfl⟩

/-- A part of an image: where it begins, and its steps. -/
structure Prt where
  x : Nat
  y : Nat
  dx : Nat
  dy : Nat
def Prt.val (p : Prt) : Value := .agg #[.int .i64 p.x, .int .i64 p.y, .int .i64 p.dx, .int .i64 p.dy]
def prtN (laced : Bool) (pass : Nat) : Prt :=
  if laced then [(⟨0, 0, 8, 8⟩ : Prt), ⟨4, 0, 8, 8⟩, ⟨0, 4, 4, 8⟩, ⟨2, 0, 4, 4⟩, ⟨0, 2, 2, 4⟩, ⟨1, 0, 2, 2⟩, ⟨0, 1, 1, 2⟩].getD pass ⟨0, 0, 1, 1⟩ else ⟨0, 0, 1, 1⟩
def passN (laced : Bool) : Nat := if laced then 7 else 1

set_option maxRecDepth 100000 in
set_option maxHeartbeats 1000000 in
theorem specPartOf (w : World) (laced : Bool) (pass : Nat) (hp : pass < passN laced) : Calls Tryz.prog 73 #[.bool laced, .int .i64 pass] w fun e w' => e = .returned (prtN laced pass).val ∧ Mod (fun _ => False) w w' := by
  cases laced
  · go_enter Tryz.func73, Tryz.ntmps73
    go_wp2
    refine bodyPost_ret (v := (prtN false pass).val) ?_ rfl ⟨rfl, (Mod.refl _ w).alloc _⟩
    simp [results, Tryz.results73, go_sem, prtN, Prt.val]
  · have h : pass = 0 ∨ pass = 1 ∨ pass = 2 ∨ pass = 3 ∨ pass = 4 ∨ pass = 5 ∨ pass = 6 := by simp [passN] at hp; omega
    clear hp
    rcases h with rfl | rfl | rfl | rfl | rfl | rfl | rfl
    all_goals
      go_enter Tryz.func73, Tryz.ntmps73
      go_wp2
      refine bodyPost_ret (v := (prtN true _).val) ?_ rfl ⟨rfl, ?_⟩
      · simp [results, Tryz.results73, go_sem, prtN, Prt.val]
      · exact ((Mod.refl _ w).alloc _).alloc _
end Go.Proofs.YtnpkgmgedgcjmaaGreatDoor
namespace Go.Proofs.YtnpkgmgedgcjmaaGreatDoor
set_option linter.unusedVariables false
set_option linter.unusedSimpArgs false
open Go.RowKit Go.Png

/-- How many of x, x + d, .. stand below n. -/
def cntN (x d n : Nat) : Nat := (n - x + d - 1) / d
def StepOk (d : Nat) : Prop := d = 1 ∨ d = 2 ∨ d = 4 ∨ d = 8
theorem cnt_lt {x d n j : Nat} (hd : StepOk d) : j < cntN x d n ↔ x + j * d < n := by
  unfold cntN
  rcases hd with rfl | rfl | rfl | rfl <;> omega
theorem prt_step (laced : Bool) (pass : Nat) : StepOk (prtN laced pass).dx ∧ StepOk (prtN laced pass).dy ∧ (prtN laced pass).x ≤ 4 ∧ (prtN laced pass).y ≤ 4 := by
  unfold prtN StepOk
  cases laced
  · simp
  · by_cases h : pass < 7
    · have h7 : pass = 0 ∨ pass = 1 ∨ pass = 2 ∨ pass = 3 ∨ pass = 4 ∨ pass = 5 ∨ pass = 6 := by omega
      rcases h7 with rfl | rfl | rfl | rfl | rfl | rfl | rfl <;> simp
    · have : ([(⟨0, 0, 8, 8⟩ : Prt), ⟨4, 0, 8, 8⟩, ⟨0, 4, 4, 8⟩, ⟨2, 0, 4, 4⟩, ⟨0, 2, 2, 4⟩, ⟨1, 0, 2, 2⟩, ⟨0, 1, 1, 2⟩].getD pass ⟨0, 0, 1, 1⟩) = ⟨0, 0, 1, 1⟩ := by
        rw [List.getD_eq_getElem?_getD, List.getElem?_eq_none (by simp; omega)]; rfl
      rw [if_pos rfl, this]; simp

/-- How wide and high a part is. -/
def sizeN (p : Prt) (wide high : Nat) : Nat × Nat :=
  if cntN p.x p.dx wide = 0 ∨ cntN p.y p.dy high = 0 then (0, 0) else (cntN p.x p.dx wide, cntN p.y p.dy high)

set_option maxRecDepth 100000 in
set_option maxHeartbeats 2000000 in
theorem specSize (w : World) (p : Prt) (wide high : Nat) (h1 : StepOk p.dx) (h2 : StepOk p.dy) (hx : p.x ≤ 4) (hy : p.y ≤ 4) (hw : wide ≤ 65536) (hh : high ≤ 65536) :
    Calls Tryz.prog 74 #[p.val, .int .i64 wide, .int .i64 high] w fun e w' => e = .returned (.tuple #[.int .i64 ((sizeN p wide high).1 : Nat), .int .i64 ((sizeN p wide high).2 : Nat)]) ∧ Mod (fun _ => False) w w' := by
  obtain ⟨px, py, dx, dy⟩ := p
  have hdx : dx ≤ 8 := by rcases h1 with h | h | h | h <;> (simp at h; omega)
  have hdy : dy ≤ 8 := by rcases h2 with h | h | h | h <;> (simp at h; omega)
  have c1 : ∀ j, j < cntN px dx wide ↔ px + j * dx < wide := fun j => cnt_lt h1
  have c2 : ∀ j, j < cntN py dy high ↔ py + j * dy < high := fun j => cnt_lt h2
  have b1 : cntN px dx wide ≤ 65544 := by unfold cntN; rcases h1 with h | h | h | h <;> (simp at h; subst h; omega)
  have b2 : cntN py dy high ≤ 65544 := by unfold cntN; rcases h2 with h | h | h | h <;> (simp at h; subst h; omega)
  have hsz : sizeN ⟨px, py, dx, dy⟩ wide high = if cntN px dx wide = 0 ∨ cntN py dy high = 0 then (0, 0) else (cntN px dx wide, cntN py dy high) := rfl
  have HSZ := Lib.hid hsz; have C1 := Lib.hid c1; have C2 := Lib.hid c2
  simp only at hx hy
  generalize cntN px dx wide = cx at *
  generalize cntN py dy high = cy at *
  clear hsz c1 c2 h1 h2
  unfold Prt.val
  have ha : Mod (fun _ => False) w (w.alloc (.cells #[.int .i64 px, .int .i64 py, .int .i64 dx, .int .i64 dy] 151)) := (Mod.refl _ w).alloc _
  have HA := Lib.hid ha; clear ha
  go_enter Tryz.func74, Tryz.ntmps74
  go_wp2
  go_loop [8, 10] (fun v x => ∃ j : Nat, j ≤ cx ∧ v = .int .i64 j ∧ x = .int .i64 (px + j * dx : Nat)) (fun v _ => cx - (intOf v).toNat)
  case atStart => exact ⟨0, by omega, rfl, by simp⟩
  case round =>
    obtain ⟨j, hj, rfl, rfl⟩ := hrel
    have hjd : j * dx ≤ 65544 * 8 := Nat.mul_le_mul (by omega) hdx
    have hs : px + (j + 1) * dx = px + j * dx + dx := by rw [Nat.succ_mul]; omega
    have hc := C1.out j
    have HS := Lib.hid hs
    generalize hxx : px + j * dx = x at *
    have hx2 : x ≤ 65544 * 8 + 4 := by omega
    clear hs hxx hjd
    by_cases hlt : j < cx
    · have hxl : x < wide := hc.1 hlt
      clear hc
      go_wp2
      go_round
      case rel => exact ⟨j + 1, by omega, by go_num, by rw [HS.out]; go_num⟩
      case measure => simp [intOf]; omega
    · have hxl : ¬ x < wide := fun h => hlt (hc.2 h)
      obtain rfl : j = cx := by omega
      clear hc HS
      go_wp2
      go_loop [9, 11] (fun v x => ∃ i : Nat, i ≤ cy ∧ v = .int .i64 i ∧ x = .int .i64 (py + i * dy : Nat)) (fun v _ => cy - (intOf v).toNat)
      case atStart => exact ⟨0, by omega, rfl, by simp⟩
      case round =>
        obtain ⟨i, hi, rfl, rfl⟩ := hrel
        have hid : i * dy ≤ 65544 * 8 := Nat.mul_le_mul (by omega) hdy
        have hs : py + (i + 1) * dy = py + i * dy + dy := by rw [Nat.succ_mul]; omega
        have hc := C2.out i
        have HS := Lib.hid hs
        generalize hyy : py + i * dy = y at *
        have hy2 : y ≤ 65544 * 8 + 4 := by omega
        clear hs hyy hid
        by_cases hlt : i < cy
        · have hyl : y < high := hc.1 hlt
          clear hc
          go_wp2
          go_round
          case rel => exact ⟨i + 1, by omega, by go_num, by rw [HS.out]; go_num⟩
          case measure => simp [intOf]; omega
        · have hyl : ¬ y < high := fun h => hlt (hc.2 h)
          obtain rfl : i = cy := by omega
          clear hc HS
          by_cases h0 : j = 0
          · subst h0
            go_wp2
            go_ret2
            refine ⟨?_, HA.out⟩
            rw [HSZ.out]; simp only [true_or, or_true, if_true]; rfl
          · by_cases h00 : i = 0
            · subst h00
              have g : ((j : Int) == 0) = false := by simp; omega
              go_wp2
              go_ret2
              refine ⟨?_, HA.out⟩
              rw [HSZ.out]; simp only [true_or, or_true, if_true]; rfl
            · have g : ((j : Int) == 0) = false := by simp; omega
              have g2 : ((i : Int) == 0) = false := by simp; omega
              go_wp2
              go_ret2
              refine ⟨?_, HA.out⟩
              rw [HSZ.out, if_neg (by omega)]; rfl

theorem wrapN (n : Nat) (h : n < 9223372036854775808) : wrap64 (n : Int) = n := by unfold wrap64; omega

/-- How many bytes a row of so many pixels has. -/
def rowN (s : Shp) (wide : Nat) : Nat := (wide * chanN s.colour * s.depth + 7) / 8
def DepOk (d : Nat) : Prop := d = 1 ∨ d = 2 ∨ d = 4 ∨ d = 8 ∨ d = 16
theorem chan_le (c : Nat) : 1 ≤ chanN c ∧ chanN c ≤ 4 := by unfold chanN; split <;> (try split) <;> (try split) <;> omega

set_option maxRecDepth 100000 in
set_option maxHeartbeats 2000000 in
theorem specRowBytes (w : World) (s : Shp) (wide : Nat) (hc : ColOk s.colour) (hd : s.depth ≤ 16) (hw : wide ≤ 65536) :
    Calls Tryz.prog 75 #[s.val, .int .i64 wide] w fun e w' => e = .returned (.int .i64 (rowN s wide : Nat)) ∧ Mod (fun _ => False) w w' := by
  obtain ⟨sw, sh, sd, sc, sl⟩ := s
  have hch := chan_le sc
  have hcall : ∀ wz : World, Calls Tryz.prog 36 #[.int .i64 sc] wz fun e w' => e = .returned (.int .i64 (chanN sc : Nat)) ∧ w' = wz := fun wz => (specChannels wz sc hc).mono fun _ _ h => ⟨h.1, h.2.symm⟩
  simp only at hd
  have m1 : wide * chanN sc ≤ 262144 := by have := Nat.mul_le_mul hw hch.2; omega
  have m2 : wide * chanN sc * sd ≤ 4194304 := by have := Nat.mul_le_mul m1 hd; omega
  have e1 : wrap64 ((wrap64 (wrap64 (wrap64 ((wide : Int) * (chanN sc : Int)) * (sd : Int)) + 7)).tdiv 8) = ((rowN ⟨sw, sh, sd, sc, sl⟩ wide : Nat) : Int) := by
    show _ = (((wide * chanN sc * sd + 7) / 8 : Nat) : Int)
    rw [← Int.natCast_mul, wrapN _ (by omega), ← Int.natCast_mul, wrapN _ (by omega), show (((wide * chanN sc * sd : Nat) : Int) + 7) = ((wide * chanN sc * sd + 7 : Nat) : Int) by omega, wrapN _ (by omega), Int.tdiv_eq_ediv_of_nonneg (by omega)]
    rw [show ((wide * chanN sc * sd + 7 : Nat) : Int) / 8 = (((wide * chanN sc * sd + 7) / 8 : Nat) : Int) by omega, wrapN _ (by omega)]
  have HC := Lib.hid hcall; have E1 := Lib.hid e1
  clear hcall e1 m1 m2 hch
  generalize chanN sc = ch at *
  unfold Shp.val
  go_enter Tryz.func75, Tryz.ntmps75
  go_wp2
  go_quiet ((go_at_call 36; exact Calls.quiet_of_same (HC.out _)))
  go_wp2
  go_ret
  exact ⟨congrArg (fun x => Ending.returned (.int .i64 x)) E1.out, ((Mod.refl _ w).alloc _).drewN _⟩

/-- How many bytes stand between a byte of a pixel and that of the next one. -/
def stepN (s : Shp) : Nat := max 1 (chanN s.colour * s.depth / 8)

set_option maxRecDepth 100000 in
set_option maxHeartbeats 2000000 in
theorem specStep (w : World) (s : Shp) (hc : ColOk s.colour) (hd : s.depth ≤ 16) :
    Calls Tryz.prog 78 #[s.val] w fun e w' => e = .returned (.int .i64 (stepN s : Nat)) ∧ Mod (fun _ => False) w w' := by
  obtain ⟨sw, sh, sd, sc, sl⟩ := s
  have hch := chan_le sc
  have hcall : ∀ wz : World, Calls Tryz.prog 36 #[.int .i64 sc] wz fun e w' => e = .returned (.int .i64 (chanN sc : Nat)) ∧ w' = wz := fun wz => (specChannels wz sc hc).mono fun _ _ h => ⟨h.1, h.2.symm⟩
  simp only at hd
  have m1 : chanN sc * sd ≤ 64 := Nat.mul_le_mul hch.2 hd
  have e1 : wrap64 ((wrap64 ((chanN sc : Int) * (sd : Int))).tdiv 8) = ((chanN sc * sd / 8 : Nat) : Int) := by
    rw [← Int.natCast_mul, wrapN _ (by omega), Int.tdiv_eq_ediv_of_nonneg (by omega)]
    rw [show ((chanN sc * sd : Nat) : Int) / 8 = ((chanN sc * sd / 8 : Nat) : Int) by omega, wrapN _ (by omega)]
  have hst : stepN ⟨sw, sh, sd, sc, sl⟩ = max 1 (chanN sc * sd / 8) := rfl
  have HC := Lib.hid hcall; have E1 := Lib.hid e1; have HST := Lib.hid hst
  clear hcall e1 m1 hch hst
  generalize chanN sc = ch at *
  unfold Shp.val
  go_enter Tryz.func78, Tryz.ntmps78
  go_wp2
  go_quiet ((go_at_call 36; exact Calls.quiet_of_same (HC.out _)))
  go_wp2
  all_goals
    go_ret
    refine ⟨congrArg (fun x => Ending.returned (.int .i64 x)) ?_, ((Mod.refl _ w).alloc _).drewN _⟩
    rw [E1.out] at h
    rw [HST.out]
    first | rw [E1.out] | skip
    omega
end Go.Proofs.YtnpkgmgedgcjmaaGreatDoor
