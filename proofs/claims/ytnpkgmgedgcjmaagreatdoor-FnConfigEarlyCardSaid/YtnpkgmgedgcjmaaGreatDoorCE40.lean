/- The reference's pixels by their samples: the function. No conditions but those in each theorem's own binders. -/
import Derived.Test.YtnpkgmgedgcjmaaGreatDoorCE39
import Derived.Test.YtnpkgmgedgcjmaaGreatDoorCE29
namespace Go.Proofs.YtnpkgmgedgcjmaaGreatDoor
set_option linter.unusedVariables false
set_option linter.unusedSimpArgs false
open Go.RowKit Go.Png

def topN (d : Nat) : Nat := 2 ^ d - 1
/-- A pixel by its samples. -/
def dotN (s : Shp) (sm : List Nat) (pal : List Dt) (cl : List Nat) (k : Nat) : Option Dt :=
  (baseD s.colour (vsP (topN s.depth) sm k (chanN s.colour)) pal (sm.getD k 0)).map fun d => if sameP sm cl k (chanN s.colour) && (decide (s.colour = 0) || decide (s.colour = 2)) then { d with a := 0 } else d
/-- The first pixels. -/
def dotsP (s : Shp) (sm : List Nat) (pal : List Dt) (cl : List Nat) : Nat → Option (List Dt)
  | 0 => some []
  | i + 1 => match dotsP s sm pal cl i with
    | none => none
    | some l => (dotN s sm pal cl (i * chanN s.colour)).map fun d => l ++ [d]
def dotsN (s : Shp) (sm : List Nat) (pal : List Dt) (cl : List Nat) : Option (List Dt) := dotsP s sm pal cl (sm.length / chanN s.colour)
theorem dotsP_length {s : Shp} {sm : List Nat} {pal : List Dt} {cl : List Nat} : ∀ {i : Nat} {l : List Dt}, dotsP s sm pal cl i = some l → l.length = i := by
  intro i
  induction i with
  | zero => intro l h; cases h; rfl
  | succ i ih =>
    intro l h
    rw [dotsP] at h
    cases hi : dotsP s sm pal cl i with
    | none => rw [hi] at h; cases h
    | some l0 =>
      rw [hi] at h
      simp only [Option.map_eq_some_iff] at h
      obtain ⟨d, _, rfl⟩ := h
      rw [List.length_append, ih hi]; rfl
theorem dotsP_none {s : Shp} {sm : List Nat} {pal : List Dt} {cl : List Nat} {i : Nat} (h : dotsP s sm pal cl i = none) : ∀ j, i ≤ j → dotsP s sm pal cl j = none := by
  intro j hj
  induction j with
  | zero => have : i = 0 := by omega
            subst this; exact h
  | succ j ih =>
    by_cases he : i = j + 1
    · subst he; exact h
    · rw [dotsP, ih (by omega)]

theorem top_le {d : Nat} (h : DepOk d) : 1 ≤ topN d ∧ topN d ≤ 65535 := by rcases h with rfl | rfl | rfl | rfl | rfl <;> decide
theorem shl_dep (d : Nat) (hd : DepOk d) (w : World) : (binOp .shl 3 (.int .i64 1) (.int .i64 (d : Nat))).run Tryz.prog w = .ok (.int .i64 ((topN d + 1 : Nat) : Int)) w := by
  rcases hd with rfl | rfl | rfl | rfl | rfl <;> kernel_rfl

theorem OwnI.at {w : World} {base g n c : Nat} {l : List Nat} (h : OwnI w base (.slice (some ⟨g, 0, none⟩) n c) l) (i : Nat) (hi : i < l.length) : w.cell? ⟨g, i, none⟩ = some (.int .i64 (l.getD i 0 : Nat)) := by
  obtain ⟨A, cc, hv, hs, _⟩ := h.form
  cases hv
  obtain ⟨b, o, he, hc⟩ := hs.some i hi
  cases he
  rw [Nat.zero_add] at hc
  exact hc

/-- What spec.Dots comes to. -/
def DotsPost (w : World) (r : Option (List Dt)) (e : Ending) (w' : World) : Prop :=
  Mod (fun _ => False) w w' ∧ ((∃ l g c, r = some l ∧ e = .returned (.tuple #[.slice (some ⟨g, 0, none⟩) l.length c, .int .i64 0]) ∧ OwnD w' w.heap.size g c l) ∨ (r = none ∧ e = .returned (.tuple #[.slice none 0 0, .int .i64 2])))

set_option maxRecDepth 100000 in
set_option maxHeartbeats 4000000 in
theorem specDots (w : World) (s : Shp) (sa pa la : Option Addr) (sn sc pn pc ln lc : Nat) (sm cl : List Nat) (pal : List Dt) (hsm : sm.length = sn) (hsb : ∀ x ∈ sm, x < 65536) (hS : SlI w sa sm) (hpn : pal.length = pn) (hP : SlD w pa pal) (hln : cl.length = ln) (hC : SlI w la cl)
    (hco : ColOk s.colour) (hd : DepOk s.depth) (hn : sn ≤ 1000000000) (hln2 : ln ≤ 1000000000) :
    Calls Tryz.prog 37 #[s.val, .slice sa sn sc, .slice pa pn pc, .slice la ln lc] w (DotsPost w (dotsN s sm pal cl)) := by
  have hs0 : ShpAt (w.alloc (.cells #[.int .i64 s.wide, .int .i64 s.high, .int .i64 s.depth, .int .i64 s.colour, .bool s.laced] 26)) w.heap.size s := ⟨by rw [World.cell?_alloc_new]; rfl, by rw [World.cell?_alloc_new]; rfl, by rw [World.cell?_alloc_new]; rfl, by rw [World.cell?_alloc_new]; rfl, by rw [World.cell?_alloc_new]; rfl⟩
  have m0 : Mod (fun _ => False) w (w.alloc (.cells #[.int .i64 s.wide, .int .i64 s.high, .int .i64 s.depth, .int .i64 s.colour, .bool s.laced] 26)) := (Mod.refl _ w).alloc _
  have hz0 : (w.alloc (.cells #[.int .i64 s.wide, .int .i64 s.high, .int .i64 s.depth, .int .i64 s.colour, .bool s.laced] 26)).heap.size = w.heap.size + 1 := by simp
  have hch := fun wz : World => specChannels wz s.colour hco
  have hsh := fun wz : World => shl_dep s.depth hd wz
  have HCH := Lib.hid hch; have SH0 := Lib.hid hs0; have M0 := Lib.hid m0; have Z0 := Lib.hid hz0; have HSM := Lib.hid hsm; have HSB := Lib.hid hsb; have HS := Lib.hid hS; have HPN := Lib.hid hpn; have HP := Lib.hid hP; have HLN := Lib.hid hln; have HC := Lib.hid hC; have HCO := Lib.hid hco; have HD := Lib.hid hd
  have htop := top_le hd
  clear hch hs0 m0 hz0 hsm hsb hS hpn hP hln hC hco hd
  unfold Shp.val
  go_enter Tryz.func37, Tryz.ntmps37
  go_upto_region 1 with fail
  generalize w.alloc (.cells #[.int .i64 s.wide, .int .i64 s.high, .int .i64 s.depth, .int .i64 s.colour, .bool s.laced] 26) = w1 at *
  have h2 := SH0.out.depth; have h3 := SH0.out.colour
  have i0 : (0 : Int) ≤ (s.depth : Int) := by omega
  have i1 : IntKind.i64.wrap (((topN s.depth + 1 : Nat) : Int) - 1) = (topN s.depth : Nat) := by rw [IntWalk.i64_in _ (by omega)]; omega
  have i2 : IntKind.i64.wrap ((topN s.depth : Int) + 1 - 1) = (topN s.depth : Nat) := by rw [IntWalk.i64_in _ (by omega)]; omega
  go_quiet ((go_at_call 36; exact Calls.quiet_of_same ((HCH.out _).mono fun e w' h => ⟨h.1, h.2.symm⟩)))
  have etop : wrap64 (wrap64 (2 ^ min s.depth 64) - 1) = ((topN s.depth : Nat) : Int) := by
    rcases HD.out with h | h | h | h | h <;> rw [h] <;> kernel_rfl
  rw [etop]
  have hS1 : ShpAt (w1.drewN nq) w.heap.size s := SH0.out.mod ((Mod.refl (fun _ => False) w1).drewN nq) id
  have m1 : Mod (fun _ => False) w (w1.drewN nq) := M0.out.drewN nq
  have hz1 : (w1.drewN nq).heap.size = w.heap.size + 1 := Z0.out
  have S1 := Lib.hid hS1; have M1 := Lib.hid m1; have Z1 := Lib.hid hz1
  clear etop hS1 m1 hz1 SH0 M0 Z0 h2 h3 i0 i1 i2 hsh
  generalize w1.drewN nq = w2 at *
  go_upto_block 0 with fail
  have hn2 := OwnD.new w2 (w.heap.size + 1) (by rw [Z1.out]; omega)
  have m2 : Mod (fun _ => False) w2 (w2.alloc (.cells #[] 75)) := (Mod.refl _ w2).alloc _
  have S2 := Lib.hid (S1.out.mod m2 id); have M2 := Lib.hid (M1.out.trans m2)
  have hz2 : (w2.alloc (.cells #[] 75)).heap.size = w.heap.size + 2 := by have := Z1.out; simp; omega
  have Z2 := Lib.hid hz2
  have hgz : w2.heap.size = w.heap.size + 1 := Z1.out
  rw [hgz] at hn2 ⊢
  have N2 := Lib.hid hn2
  clear hn2 m2 hz2 S1 M1 Z1 hgz
  generalize w2.alloc (.cells #[] 75) = w3 at *
  have hch := chan_le s.colour
  generalize hcc : chanN s.colour = c at *
  have HCC := Lib.hid hcc
  have hP : sn / c * c ≤ sn := Nat.div_mul_le_self sn c
  have hP1 : ∀ i, i < sn / c → i * c + c ≤ sn := fun i hi => by
    have : (i + 1) * c ≤ sn / c * c := Nat.mul_le_mul_right _ hi
    rw [Nat.succ_mul] at this; omega
  have hP2 : sn < sn / c * c + c := by
    have := Nat.div_add_mod sn c
    have h2 := Nat.mod_lt sn (show 0 < c by omega)
    rw [Nat.mul_comm] at this; omega
  have hPn : sn / c ≤ sn := Nat.div_le_self _ _
  have hdn : dotsN s sm pal cl = dotsP s sm pal cl (sn / c) := by unfold dotsN; rw [HSM.out, hcc]
  generalize hPP : sn / c = PP at *
  have HP0 := Lib.hid hP; have HP1 := Lib.hid hP1; have HP2 := Lib.hid hP2; have HDN := Lib.hid hdn
  clear hcc hP hP1 hP2 hPP hdn HCH
  go_wp2
  go_loopg [12, 13, 14, 15, 16, 17] (PP - 0) (fun gk v12 v13 _ _ _ _ wr => ∃ i g cc : Nat, ∃ l, i ≤ PP ∧ gk = PP - i ∧ v13 = .int .i64 (i * c : Nat) ∧ v12 = .slice (some ⟨g, 0, none⟩) i cc ∧ dotsP s sm pal cl i = some l ∧ OwnD wr (w.heap.size + 1) g cc l ∧ Mod (fun k => w.heap.size + 1 ≤ k) w3 wr)
  case atStart => exact ⟨0, w.heap.size + 1, 0, [], by omega, rfl, by simp, rfl, rfl, N2.out, Mod.refl _ _⟩
  case round =>
    obtain ⟨i, g, cc, l, hi, hkk, rfl, rfl, hl, own, mm⟩ := hrel
    have HK := Lib.hid hkk; have HL := Lib.hid hl; have OWN := Lib.hid own; have MM := Lib.hid mm
    clear hkk hl own mm
    by_cases hlt : i < PP
    · have hic := HP1.out i hlt
      have hnx : (i + 1) * c = i * c + c := Nat.succ_mul i c
      have HNX := Lib.hid hnx
      clear hnx
      generalize hki : i * c = k at *
      have HKI := Lib.hid hki
      clear hki
      have i1 : (k : Int) + (c : Int) ≤ (sn : Int) := by omega
      have hdd := dotsP_length HL.out
      have hdp : dotsP s sm pal cl (i + 1) = (dotN s sm pal cl k).map fun d => l ++ [d] := by rw [dotsP, HL.out, HCC.out, HKI.out]
      have HDP := Lib.hid hdp
      have hwr := MM.out.size
      have hwz := Z2.out
      have hlg := OWN.out.base
      clear hdp
      have hs2 : ShpAt wr w.heap.size s := S2.out.mod MM.out (by omega)
      have HS2 := Lib.hid hs2
      clear hs2
      go_upto_block 2 with fail
      rename_i K hK
      have hn4 := OwnI.new wr (w.heap.size + 1) (by omega)
      have m4 : Mod (fun _ => False) wr (wr.alloc (.cells #[] 3)) := (Mod.refl _ wr).alloc _
      have hz4 : (wr.alloc (.cells #[] 3)).heap.size = wr.heap.size + 1 := by simp
      have N4 := Lib.hid hn4; have M4 := Lib.hid m4; have Z4 := Lib.hid hz4
      clear hn4 m4 hz4
      generalize wr.alloc (.cells #[] 3) = w4 at *
      have hm04 : Mod (fun k => w.heap.size + 1 ≤ k) w w4 := ((M2.out.mono (fun _ _ h => h.elim)).trans MM.out).trans (M4.out.mono (fun _ _ h => h.elim))
      have M04 := Lib.hid hm04
      clear hm04
      refine dots_inner w4 (w.heap.size + 1) sa la sn sc ln lc wr.heap.size c (topN s.depth) k sm cl (by have := Z4.out; omega) N4.out HSM.out HLN.out (fun w' m => ⟨HS.out.mod (M04.out.trans m) (fun k hk h => by omega), HC.out.mod (M04.out.trans m) (fun k hk h => by omega)⟩) HSB.out hic hch.2 hn hln2 htop.1 htop.2 _ _ _ _ _ _ _ _ _ _ _ _ _ _ _ _ _ _ _ _ _ _ _ _ _ _ _ _ _ _ _ _ _ _ _ _ _ _ _ _ _ _ _ _ _ _ _ _ _ _ _ _ _ _ _ _ _ _ _ _ _ _ _ _ _ _ _ _ _ _ _ _ _ _ _ _ _ _ _ _ _ _ _ _ _ _ _ _ _ _ _ _ _ _ _ _ _ _ _ _ _ _ _ _ _ _ _ _ _ _ _ _ _ _ _ _ _ _ _ _ _ _ _ _ _ _ _ _ _ _ _ _ _ _ _ _ _ _ _ _ _ _ _ _ _ _ _ _ _ _ _ _ _ _ _ _ _ _ _ ?_ ?_
      case refine_2 => simp [sameP, HLN.out]
      intro w5 g5 c5 _ _ _ _ _ _ _ _ _ _ _ _ _ _ _ _ _ _ _ _ _ _ _ _ _ _ _ _ _ _ _ _ _ _ _ _ own5 m5
      change K _ _
      refine hK _ _ ?_
      clear hK K
      have hlw := Z4.out
      have M45 := Lib.hid m5
      have M05 := Lib.hid (M04.out.trans (m5.mono (fun k _ h => by omega)))
      have MR5 := Lib.hid (M4.out.then m5 (fun k hk h => by omega))
      have hs5 : ShpAt w5 w.heap.size s := HS2.out.mod MR5.out id
      have hvs5 : ∀ j, j < c → w5.cell? ⟨g5, j, none⟩ = some (.int .i64 ((vsP (topN s.depth) sm k c).getD j 0 : Nat)) := by
        intro j hj
        exact own5.at j (by rw [vsP_length]; exact hj)
      have hg5 := World.ownsRow.lt own5 g5 rfl
      have HS5 := Lib.hid hs5; have HV5 := Lib.hid hvs5
      have hsz5 := MR5.out.size
      clear hs5 hvs5 own5 m5 N4 M4 M04 HS2 hlw Z4 M45
      go_upto_region 15 with fail
      have hd0 : DtAt (w5.alloc (.cells #[.int .i64 0, .int .i64 0, .int .i64 0, .int .i64 65535] 75)) w5.heap.size 0 ⟨0, 0, 0, 65535⟩ := DtAt.new w5 ⟨0, 0, 0, 65535⟩ _
      have m6 : Mod (fun _ => False) w5 (w5.alloc (.cells #[.int .i64 0, .int .i64 0, .int .i64 0, .int .i64 65535] 75)) := (Mod.refl _ w5).alloc _
      have hf6 : ∀ o, (w5.alloc (.cells #[.int .i64 0, .int .i64 0, .int .i64 0, .int .i64 65535] 75)).frozen? ⟨w5.heap.size, o, none⟩ = false := fun o => by rw [World.frozen?_alloc_new]
      have hz6 : (w5.alloc (.cells #[.int .i64 0, .int .i64 0, .int .i64 0, .int .i64 65535] 75)).heap.size = w5.heap.size + 1 := by simp
      have D0 := Lib.hid hd0; have M6 := Lib.hid m6; have F6 := Lib.hid hf6; have Z6 := Lib.hid hz6
      clear hd0 m6 hf6 hz6
      generalize w5.alloc (.cells #[.int .i64 0, .int .i64 0, .int .i64 0, .int .i64 65535] 75) = w6 at *
      have M06 := Lib.hid (M05.out.trans (M6.out.mono (fun _ _ h => h.elim)))
      have hs6 := HS5.out.mod M6.out id
      have d3 := hs6.colour
      have HS6 := Lib.hid hs6
      clear hs6 HS5
      go_upto_block 4 with fail
      rename_i K hK
      refine dots_switch w6 s.colour w5.heap.size sa pa sn sc pn pc g5 c c5 k sm (vsP (topN s.depth) sm k c) pal _ HCO.out HCC.out.symm (fun j hj => (M6.out.cell hg5.2 id j).trans (HV5.out j hj)) D0.out F6.out HSM.out (by omega) (HS.out.mod M06.out (fun k hk h => by omega)) HPN.out (HP.out.mod M06.out (fun k hk h => by omega)) _ _ _ _ _ _ _ _ _ _ _ _ _ _ _ _ _ _ _ _ _ _ _ _ _ _ _ _ _ _ _ _ _ _ _ _ _ _ _ _ _ _ _ _ _ _ _ _ _ _ _ _ _ _ _ _ _ _ _ _ _ _ _ _ _ _ _ _ _ _ _ _ _ _ _ _ _ _ _ _ _ _ _ _ _ _ _ _ _ _ _ _ _ _ _ _ _ _ _ _ _ _ _ _ _ _ _ _ _ _ _ _ _ _ _ _ _ _ _ _ _ _ _ _ _ _ _ _ _ _ _ _ _ _ _ _ _ _ _ _ _ _ _ _ _ _ _ _ _ _ _ _ _ _ _ _ _ _ _ _ _ ?_ ?_
      · intro d w7 _ _ _ _ _ _ _ _ _ _ _ _ _ _ _ _ _ _ _ _ _ _ _ _ _ _ _ _ _ _ _ _ _ _ _ _ _ _ _ _ _ _ _ _ _ _ _ _ _ _ _ _ _ _ _ _ _ _ _ _ _ _ _ _ _ _ _ _ _ _ hbd hd7 m7 hf7
        change K _ _
        refine hK _ _ ?_
        clear hK K
        refine wp_seq_k (fun K hK => ?_)
        refine dots_clear w7 s.colour w.heap.size w5.heap.size (sameP sm cl k c) d HCO.out ((HS6.out.mod m7 (by omega)).colour) hd7 hf7 _ _ _ _ _ _ _ _ _ _ _ _ _ _ _ _ _ _ _ _ _ _ _ _ _ _ _ _ _ _ _ _ _ _ _ _ _ _ _ _ _ _ _ _ _ _ _ _ _ _ _ _ _ _ _ _ _ _ _ _ _ _ _ _ _ _ _ _ _ _ _ _ _ _ _ _ _ _ _ _ _ _ _ _ _ _ _ _ _ _ _ _ _ _ _ _ _ _ _ _ _ _ _ _ _ _ _ _ _ _ _ _ _ _ _ _ _ _ _ _ _ _ _ _ _ _ _ _ _ _ _ _ _ _ _ _ _ _ _ _ _ _ _ _ _ _ _ _ _ _ _ _ _ _ _ _ _ _ _ _ _ _ _ _ ?_
        intro w8 _ _ _ _ _ _ _ _ _ _ _ _ hd8 m8
        change K _ _
        refine hK _ _ ?_
        clear hK K
        have hdn : dotN s sm pal cl k = some (if sameP sm cl k c && (decide (s.colour = 0) || decide (s.colour = 2)) then { d with a := 0 } else d) := by
          unfold dotN; rw [HCC.out, hbd]; rfl
        have HDN2 : Hid (dotsP s sm pal cl (i + 1) = some (l ++ [if sameP sm cl k c && (decide (s.colour = 0) || decide (s.colour = 2)) then { d with a := 0 } else d])) := Lib.hid (by rw [HDP.out, hdn]; rfl)
        have MR8 := Lib.hid ((MR5.out.trans M6.out).then (m7.trans m8) (fun k hk h => by omega))
        have hlr := lt_of_cell hd8.r
        clear hdn hbd hd7 hf7 D0 F6 HS6 HV5 M6 M06 d3 HDP
        generalize (if sameP sm cl k c && (decide (s.colour = 0) || decide (s.colour = 2)) then { d with a := 0 } else d) = d9 at *
        obtain ⟨e0, e1, e2, e3⟩ := hd8
        have hz8 : wr.heap.size ≤ w8.heap.size := MR8.out.size
        have hnew : DtAt (w8.alloc (.cells #[.int .i64 d9.r, .int .i64 d9.g, .int .i64 d9.b, .int .i64 d9.a] 75)) w8.heap.size 0 d9 := DtAt.new w8 d9 _
        have HNEW := Lib.hid hnew
        clear hnew m7 m8 MR5 M05
        go_upto_region 5 with (at_builtin; go_must (refine wpList_appD rfl (.tmp 161) (.tmp 163) rfl (w.heap.size + 1) g i cc l hdd rfl ((OWN.out.mod MR8.out id).mod ((Mod.refl (fun _ => False) w8).alloc _) id) w8.heap.size 0 1 d9 rfl HNEW.out (by omega) (by simp; omega) ?_; intro g9 c9 w9 hown9 hm9 hg9))
        have mm9 : Mod (fun k => w.heap.size + 1 ≤ k) w3 w9 := ((MM.out.trans (MR8.out.mono (fun _ _ h => h.elim))).alloc _).trans (hm9.out.mono (fun k _ h => by omega))
        have MM9 := Lib.hid mm9; have O9 := Lib.hid hown9.out
        have i9 : ((k : Int) + (c : Int)) = (((i + 1) * c : Nat) : Int) := by rw [HNX.out]; omega
        have I9 := Lib.hid i9
        clear mm9 hown9 hm9 hg9 HNEW e0 e1 e2 e3 i9 OWN MM MR8 hdd hlr hz8 hsz5 hwr hwz hlg hg5
        go_wp2
        go_roundg (PP - (i + 1))
        case measure => have := HK.out; omega
        case rel => exact ⟨i + 1, g9, c9, _, by omega, rfl, by rw [I9.out], rfl, HDN2.out, O9.out, MM9.out⟩
      · intro _ _ _ _ _ _ _ _ _ _ _ _ _ _ _ _ _ _ _ _ _ _ _ _ _ _ _ _ _ _ _ _ _ _ _ _ _ _ _ _ _ _ _ _ _ _ _ _ _ _ _ _ _ _ _ _ _ _ _ _ _ _ _ _ _ _ _ _ _ _ hbd
        have hdn : dotN s sm pal cl k = none := by unfold dotN; rw [HCC.out, hbd]; rfl
        have hno : dotsN s sm pal cl = none := by rw [HDN.out]; exact dotsP_none (by rw [HDP.out, hdn]; rfl) PP (by omega)
        change bodyPost Tryz.prog Tryz.f37 _ Exit.ret _ _
        refine bodyPost_ret (v := .tuple #[.slice none 0 0, .int .i64 2]) (by simp [results, Tryz.results37, go_sem]) rfl ⟨?_, Or.inr ⟨hno, rfl⟩⟩
        exact (Mod.refl (fun _ => False) w).then M06.out (fun k hk h => by omega)
    · obtain rfl : i = PP := by omega
      have hp2 := HP2.out
      have i3 : i * c ≤ sn := HP0.out
      have i2 : ¬ (((i * c : Nat) : Int) + (c : Int) ≤ (sn : Int)) := by omega
      have hres : DotsPost w (dotsN s sm pal cl) (.returned (.tuple #[.slice (some ⟨g, 0, none⟩) l.length cc, .int .i64 0])) wr :=
        ⟨M2.out.then MM.out (fun k hk h => by omega), Or.inl ⟨l, g, cc, by rw [HDN.out, HL.out], rfl, OWN.out.mono (by omega)⟩⟩
      have HRES := Lib.hid hres
      have hll := dotsP_length HL.out
      rw [hll] at HRES
      clear hres hp2 hll HP0 HP1 HP2 HDN HL
      generalize i * c = k at *
      go_wp2
      go_ret2
      exact HRES.out
end Go.Proofs.YtnpkgmgedgcjmaaGreatDoor
