/- The reference's filters. The reference's Filtered. No conditions but those in each theorem's own binders. -/
import Derived.Test.YtnpkgmgedgcjmaaGreatDoorCE19
namespace Go.Proofs.YtnpkgmgedgcjmaaGreatDoor
set_option linter.unusedVariables false
set_option linter.unusedSimpArgs false
open Go.RowKit Go.Png

def distI (a b : Int) : Int := if b - a ≤ a - b then a - b else b - a

set_option maxRecDepth 100000 in
theorem specDistance (w : World) (a b : Int) (ha : -100000 ≤ a ∧ a ≤ 100000) (hb : -100000 ≤ b ∧ b ≤ 100000) : Calls Tryz.prog 127 #[.int .i64 a, .int .i64 b] w fun e w' => e = .returned (.int .i64 (distI a b)) ∧ w = w' := by
  obtain ⟨h1, h2⟩ := ha
  obtain ⟨h3, h4⟩ := hb
  go_enter Tryz.func127, Tryz.ntmps127
  go_wp2
  all_goals
    go_ret
    refine ⟨congrArg (fun x => Ending.returned (.int .i64 x)) ?_, rfl⟩
    unfold distI
    split <;> omega

/-- The one of a, b and c that is nearest to a + b - c; of equally near ones the first. -/
def paethI (a b c : Int) : Int :=
  if distI (a + b - c) a ≤ distI (a + b - c) b ∧ distI (a + b - c) a ≤ distI (a + b - c) c then a else if distI (a + b - c) b ≤ distI (a + b - c) c then b else c

theorem distI_bd (a b : Int) (h1 : -1000 ≤ a ∧ a ≤ 1000) (h2 : -1000 ≤ b ∧ b ≤ 1000) : 0 ≤ distI a b ∧ distI a b ≤ 2000 := by unfold distI; split <;> omega

set_option maxRecDepth 100000 in
set_option maxHeartbeats 2000000 in
theorem specPaeth (w : World) (a b c : Nat) (ha : a < 256) (hb : b < 256) (hc : c < 256) : Calls Tryz.prog 115 #[.int .i64 a, .int .i64 b, .int .i64 c] w fun e w' => e = .returned (.int .i64 (paethI a b c)) ∧ w = w' := by
  have d1 := specDistance w ((a : Int) + b - c) a (by omega) (by omega)
  have d2 := specDistance w ((a : Int) + b - c) b (by omega) (by omega)
  have d3 := specDistance w ((a : Int) + b - c) c (by omega) (by omega)
  have hp : paethI a b c = if distI (a + b - c) a ≤ distI (a + b - c) b ∧ distI (a + b - c) a ≤ distI (a + b - c) c then (a : Int) else if distI (a + b - c) b ≤ distI (a + b - c) c then b else c := rfl
  have D1 := Lib.hid d1; have D2 := Lib.hid d2; have D3 := Lib.hid d3; have HP := Lib.hid hp
  clear d1 d2 d3 hp
  generalize distI ((a : Int) + b - c) a = xa at *
  generalize distI ((a : Int) + b - c) b = xb at *
  generalize distI ((a : Int) + b - c) c = xc at *
  by_cases h1 : xa ≤ xb
  · by_cases h2 : xa ≤ xc
    · go_enter Tryz.func115, Tryz.ntmps115
      go_wp2_with (go_at_call 127; first | ((with_reducible refine D1.out.mono ?_); rintro e w' ⟨rfl, rfl⟩) | ((with_reducible refine D2.out.mono ?_); rintro e w' ⟨rfl, rfl⟩) | ((with_reducible refine D3.out.mono ?_); rintro e w' ⟨rfl, rfl⟩))
      go_ret
      exact ⟨congrArg (fun x => Ending.returned (.int .i64 x)) (by rw [HP.out]; (repeat' split) <;> omega), rfl⟩
    · by_cases h3 : xb ≤ xc
      · exact absurd h3 (by omega)
      · go_enter Tryz.func115, Tryz.ntmps115
        go_wp2_with (go_at_call 127; first | ((with_reducible refine D1.out.mono ?_); rintro e w' ⟨rfl, rfl⟩) | ((with_reducible refine D2.out.mono ?_); rintro e w' ⟨rfl, rfl⟩) | ((with_reducible refine D3.out.mono ?_); rintro e w' ⟨rfl, rfl⟩))
        go_ret
        exact ⟨congrArg (fun x => Ending.returned (.int .i64 x)) (by rw [HP.out]; (repeat' split) <;> omega), rfl⟩
  · by_cases h3 : xb ≤ xc
    · go_enter Tryz.func115, Tryz.ntmps115
      go_wp2_with (go_at_call 127; first | ((with_reducible refine D1.out.mono ?_); rintro e w' ⟨rfl, rfl⟩) | ((with_reducible refine D2.out.mono ?_); rintro e w' ⟨rfl, rfl⟩) | ((with_reducible refine D3.out.mono ?_); rintro e w' ⟨rfl, rfl⟩))
      go_ret
      exact ⟨congrArg (fun x => Ending.returned (.int .i64 x)) (by rw [HP.out]; (repeat' split) <;> omega), rfl⟩
    · go_enter Tryz.func115, Tryz.ntmps115
      go_wp2_with (go_at_call 127; first | ((with_reducible refine D1.out.mono ?_); rintro e w' ⟨rfl, rfl⟩) | ((with_reducible refine D2.out.mono ?_); rintro e w' ⟨rfl, rfl⟩) | ((with_reducible refine D3.out.mono ?_); rintro e w' ⟨rfl, rfl⟩))
      go_ret
      exact ⟨congrArg (fun x => Ending.returned (.int .i64 x)) (by rw [HP.out]; (repeat' split) <;> omega), rfl⟩

/-- What a filter takes from the byte at a place of a row. -/
def predN (kind : Nat) (row above : List UInt8) (i st : Nat) : Nat :=
  if kind = 1 then (if st ≤ i then (at_ row (i - st)).toNat else 0)
  else if kind = 2 then (at_ above i).toNat
  else if kind = 3 then ((if st ≤ i then (at_ row (i - st)).toNat else 0) + (at_ above i).toNat) / 2
  else if kind = 4 then (paethI (if st ≤ i then (at_ row (i - st)).toNat else 0 : Nat) (at_ above i).toNat (if st ≤ i then (at_ above (i - st)).toNat else 0 : Nat)).toNat
  else 0

theorem paethI_bd (a b c : Nat) (ha : a < 256) (hb : b < 256) (hc : c < 256) : 0 ≤ paethI a b c ∧ paethI a b c < 256 := by unfold paethI; split <;> (try split) <;> omega
theorem predN_lt (kind : Nat) (row above : List UInt8) (i st : Nat) : predN kind row above i st < 256 := by
  have h1 : ∀ l j, (at_ l j).toNat < 256 := fun l j => (at_ l j).toNat_lt
  have ha : (if st ≤ i then (at_ row (i - st)).toNat else 0) < 256 := by split; exact h1 _ _; decide
  have hc : (if st ≤ i then (at_ above (i - st)).toNat else 0) < 256 := by split; exact h1 _ _; decide
  have hp := paethI_bd _ _ _ ha (h1 above i) hc
  have hb := h1 above i
  unfold predN
  split
  · exact ha
  · split
    · exact hb
    · split
      · omega
      · split
        · omega
        · decide

theorem bytes_at {w : World} {b off : Nat} {l : List UInt8} (h : Bytes w b off l) (i : Nat) (hi : i < l.length) : w.cell? ⟨b, off + i, none⟩ = some (.int .u8 ((at_ l i).toNat : Nat)) := by
  rw [h i hi]
  have : at_ l i = l[i] := by unfold at_; rw [List.getD_eq_getElem?_getD, List.getElem?_eq_getElem hi]; rfl
  rw [this]

theorem SlB.some {w : World} {a : Option Addr} {l : List UInt8} (h : SlB w a l) (i : Nat) (hi : i < l.length) : ∃ b off, a = some ⟨b, off, none⟩ ∧ Bytes w b off l := by
  rcases h with h | h
  · rw [h] at hi; exact absurd hi (by simp)
  · exact h

set_option maxRecDepth 100000 in
set_option maxHeartbeats 4000000 in
theorem specPredicted (w : World) (kind : Nat) (a1 a2 : Option Addr) (n c1 c2 : Nat) (row above : List UInt8) (i st : Nat) (hk : kind ≤ 4) (hr : row.length = n) (hv : above.length = n) (h1 : SlB w a1 row) (h2 : SlB w a2 above) (hi : i < n) (hst : 1 ≤ st) (hn : n ≤ 1000000) (hst2 : st ≤ 1000) :
    Calls Tryz.prog 102 #[.int .i64 kind, .slice a1 n c1, .slice a2 n c2, .int .i64 i, .int .i64 st] w fun e w' => e = .returned (.int .i64 (predN kind row above i st : Nat)) ∧ ∃ m, w' = w.drewN m := by
  obtain ⟨b1, o1, rfl, hb1⟩ := h1.some i (by omega)
  obtain ⟨b2, o2, rfl, hb2⟩ := h2.some i (by omega)
  have hB := bytes_at hb2 i (by omega)
  have bB := (at_ above i).toNat_lt
  have hp := predN kind row above i st
  have hk5 : kind = 0 ∨ kind = 1 ∨ kind = 2 ∨ kind = 3 ∨ kind = 4 := by omega
  by_cases hs : st ≤ i
  · have hA := bytes_at hb1 (i - st) (by omega)
    have hC := bytes_at hb2 (i - st) (by omega)
    have bA := (at_ row (i - st)).toNat_lt
    have bC := (at_ above (i - st)).toNat_lt
    have e1 : ((i : Int) - (st : Int)) = ((i - st : Nat) : Int) := by omega
    have hpr : predN kind row above i st = predN kind row above i st := rfl
    generalize hq : i - st = q at *
    have hq2 : q < n := by omega
    have HPR : Hid (predN kind row above i st = if kind = 1 then (at_ row q).toNat else if kind = 2 then (at_ above i).toNat else if kind = 3 then ((at_ row q).toNat + (at_ above i).toNat) / 2 else if kind = 4 then (paethI (at_ row q).toNat (at_ above i).toNat (at_ above q).toNat).toNat else 0) := by
      refine Lib.hid ?_
      unfold predN
      simp only [if_pos hs, hq]
    have hpae : ∀ wz : World, Calls Tryz.prog 115 #[.int .i64 ((at_ row q).toNat : Nat), .int .i64 ((at_ above i).toNat : Nat), .int .i64 ((at_ above q).toNat : Nat)] wz fun e w' => e = .returned (.int .i64 (paethI (at_ row q).toNat (at_ above i).toNat (at_ above q).toNat)) ∧ wz = w' := fun wz => specPaeth wz _ _ _ bA bB bC
    have hpb := paethI_bd _ _ _ bA bB bC
    have HP := Lib.hid hpae; have HPB := Lib.hid hpb
    have E1 := Lib.hid e1
    clear hpae hp hpr hb1 hb2 h1 h2 hpb hq hr hv
    generalize (at_ row q).toNat = xa at *
    generalize (at_ above i).toNat = xb at *
    generalize (at_ above q).toNat = xc at *
    have e2 : IntKind.i64.wrap ((i : Int) - (st : Int)) = (q : Int) := by rw [IntWalk.i64_in _ (by omega)]; exact E1.out
    have q1 : (q : Int) < (n : Int) := by omega
    have q0 : (0 : Int) ≤ (q : Int) := by omega
    rcases hk5 with rfl | rfl | rfl | rfl | rfl
    all_goals
      go_enter Tryz.func102, Tryz.ntmps102
      go_wp2
      go_quiet (fail)
      go_wp2
      go_quiet (fail)
      go_wp2_with (go_at_call 115; refine (HP.out _).mono ?_; rintro e w' ⟨rfl, rfl⟩)
      go_ret
      refine ⟨congrArg (fun x => Ending.returned (.int .i64 x)) ?_, _, rfl⟩
      rw [HPR.out]
      have hpb := HPB.out
      first | rfl | exact (Int.toNat_of_nonneg hpb.1).symm | (simp; done) | (simp; omega)
  · have HPR : Hid (predN kind row above i st = if kind = 1 then 0 else if kind = 2 then (at_ above i).toNat else if kind = 3 then (0 + (at_ above i).toNat) / 2 else if kind = 4 then (paethI (0 : Nat) (at_ above i).toNat (0 : Nat)).toNat else 0) := by
      refine Lib.hid ?_
      unfold predN
      simp only [if_neg hs]
    have hpae : ∀ wz : World, Calls Tryz.prog 115 #[.int .i64 (0 : Nat), .int .i64 ((at_ above i).toNat : Nat), .int .i64 (0 : Nat)] wz fun e w' => e = .returned (.int .i64 (paethI (0 : Nat) (at_ above i).toNat (0 : Nat))) ∧ wz = w' := fun wz => specPaeth wz 0 _ 0 (by decide) bB (by decide)
    have hpb := paethI_bd 0 _ 0 (by decide) bB (by decide)
    have HP := Lib.hid hpae; have HPB := Lib.hid hpb
    clear hpae hp hb1 hb2 h1 h2 hpb hr hv
    generalize (at_ above i).toNat = xb at *
    rcases hk5 with rfl | rfl | rfl | rfl | rfl
    all_goals
      go_enter Tryz.func102, Tryz.ntmps102
      go_wp2
      go_quiet (fail)
      go_wp2_with (go_at_call 115; refine (HP.out _).mono ?_; rintro e w' ⟨rfl, rfl⟩)
      go_ret
      refine ⟨congrArg (fun x => Ending.returned (.int .i64 x)) ?_, _, rfl⟩
      rw [HPR.out]
      have hpb := HPB.out
      first | rfl | exact (Int.toNat_of_nonneg hpb.1).symm | (simp; done) | (simp; omega)
end Go.Proofs.YtnpkgmgedgcjmaaGreatDoor
namespace Go.Proofs.YtnpkgmgedgcjmaaGreatDoor
set_option linter.unusedVariables false
set_option linter.unusedSimpArgs false
open Go.RowKit Go.Png

/-- The first bytes of a row under a filter. -/
def filtP (kind : Nat) (row above : List UInt8) (st : Nat) : Nat → List UInt8
  | 0 => []
  | j + 1 => filtP kind row above st j ++ [at_ row j - UInt8.ofNat (predN kind row above j st)]
theorem filtP_length (kind : Nat) (row above : List UInt8) (st j : Nat) : (filtP kind row above st j).length = j := by
  induction j with
  | zero => rfl
  | succ j ih => simp [filtP, ih]
/-- A row under a filter. -/
def filtL (kind : Nat) (row above : List UInt8) (st : Nat) : List UInt8 := filtP kind row above st row.length

theorem sub_u8 (x : UInt8) (p : Nat) (hp : p < 256) : ((x.toNat : Int) - (p : Int)) % (256 : Int) = (((x - UInt8.ofNat p).toNat : Nat) : Int) := by
  rw [UInt8.toNat_sub, UInt8.toNat_ofNat']
  have := x.toNat_lt
  omega

set_option maxRecDepth 100000 in
set_option maxHeartbeats 4000000 in
theorem specFiltered (w : World) (kind : Nat) (a1 a2 : Option Addr) (n c1 c2 : Nat) (row above : List UInt8) (st : Nat) (hk : kind ≤ 4) (hr : row.length = n) (hv : above.length = n) (h1 : SlB w a1 row) (h2 : SlB w a2 above) (hst : 1 ≤ st) (hn : n ≤ 1000000) (hst2 : st ≤ 1000) :
    Calls Tryz.prog 77 #[.int .i64 kind, .slice a1 n c1, .slice a2 n c2, .int .i64 st] w fun e w' => ∃ g c, e = .returned (.slice (some ⟨g, 0, none⟩) n c) ∧ Own8 w' w.heap.size g c (filtL kind row above st) ∧ Mod (fun _ => False) w w' := by
  have H1 := Lib.hid h1; have H2 := Lib.hid h2; have HR := Lib.hid hr; have HV := Lib.hid hv
  have h0 := Own8.new w w.heap.size (Nat.le_refl _)
  have m0 : Mod (fun k => w.heap.size ≤ k) w (w.alloc (.cells #[] 5)) := (Mod.refl _ w).alloc _
  have H0 := Lib.hid h0; have M0 := Lib.hid m0
  clear h1 h2 hr hv h0 m0
  go_enter Tryz.func77, Tryz.ntmps77
  go_wp2
  go_loopg [9, 10, 11, 15] (n - 0) (fun k v9 _ _ v15 wr => ∃ j g c : Nat, j ≤ n ∧ k = n - j ∧ v15 = .int .i64 j ∧ v9 = .slice (some ⟨g, 0, none⟩) j c ∧ Own8 wr w.heap.size g c (filtP kind row above st j) ∧ Mod (fun k => w.heap.size ≤ k) w wr)
  case atStart => exact ⟨0, w.heap.size, 0, by omega, rfl, rfl, rfl, H0.out, M0.out⟩
  case round =>
    obtain ⟨j, g, c, hj, hkk, rfl, rfl, own, mm⟩ := hrel
    by_cases hlt : j < n
    · have s1 := H1.out.mod mm (fun k hk hs => by omega)
      have s2 := H2.out.mod mm (fun k hk hs => by omega)
      obtain ⟨b1, o1, rfl, hb1⟩ := H1.out.some j (by have := HR.out; omega)
      obtain ⟨b1', o1', he1, hb1'⟩ := s1.some j (by have := HR.out; omega)
      have hc1 : wr.cell? ⟨b1, o1 + j, none⟩ = some (.int .u8 ((at_ row j).toNat : Nat)) := by
        cases he1; exact bytes_at hb1' j (by have := HR.out; omega)
      have hp := specPredicted wr kind _ a2 n c1 c2 row above j st hk HR.out HV.out s1 s2 hlt hst hn hst2
      have hpl := predN_lt kind row above j st
      have hsub := sub_u8 (at_ row j) _ hpl
      have hfs : filtP kind row above st (j + 1) = filtP kind row above st j ++ [at_ row j - UInt8.ofNat (predN kind row above j st)] := rfl
      have hbx := (at_ row j).toNat_lt
      have own' : wr.ownsRow w.heap.size 5 1 (.slice (some ⟨g, 0, none⟩) j c) j (bytesV (filtP kind row above st j)) := by have h := own; unfold Own8 at h; rwa [filtP_length] at h
      have hg := own.base
      have OWN := Lib.hid own'
      have HP := Lib.hid hp; have HSUB := Lib.hid hsub; have HFS := Lib.hid hfs; have HO := Lib.hid own; have HM := Lib.hid mm; have HK := Lib.hid hkk
      clear hp hsub hfs own own' mm hkk s1 s2 hb1 hb1' he1
      generalize predN kind row above j st = p at *
      generalize at_ row j = x at *
      go_wp2_with (first
        | (go_at_call 102; refine HP.out.mono ?_; rintro e w2 ⟨rfl, m, hm⟩; subst hm)
        | (at_builtin; go_must (refine wpList_app el8 rfl (.tmp 20) (.tmp 30) rfl w.heap.size (.slice (some ⟨g, 0, none⟩) j c) j (bytesV (filtP kind row above st j)) rfl (World.ownsRow.alloc (w := wr.drewN m) OWN.out _) ⟨wr.heap.size, 0, none⟩ 1 1 _ rfl rfl (news1 (wr.drewN m) [_] _) (by simp [Value.oneCell']) (Or.inl (by simp)) (by omega) (by omega) (by have := HM.out.size; simp; omega) ?_; intro g2 c2 w2 hap)))
      have hown := hap.out.own
      have hmod : Mod (fun k => w.heap.size ≤ k) w w2 := ((HM.out.drewN m).alloc _).trans (hap.out.mod.mono (fun k _ hk => by simp [Value.ownBlock] at hk; omega))
      have hown2 : Own8 w2 w.heap.size g2 c2 (filtP kind row above st (j + 1)) := by
        unfold Own8
        rw [filtP_length, HFS.out, bytesV_append]
        rw [HSUB.out] at hown
        exact hown
      have HOWN := Lib.hid hown2; have HMOD := Lib.hid hmod
      clear hown hmod hown2 hap HO HM
      go_wp2
      go_roundg (n - (j + 1))
      case measure => have := HK.out; omega
      case rel => exact ⟨j + 1, g2, c2, by omega, rfl, by go_num, rfl, HOWN.out, HMOD.out⟩
    · obtain rfl : j = n := by omega
      have HO := Lib.hid own; have HM := Lib.hid mm
      clear own mm hkk
      go_wp2
      go_ret
      refine ⟨g, c, rfl, ?_, (Mod.refl (fun _ => False) w).then HM.out (fun k hk hs => by omega)⟩
      unfold filtL
      rw [HR.out]
      exact HO.out
end Go.Proofs.YtnpkgmgedgcjmaaGreatDoor
