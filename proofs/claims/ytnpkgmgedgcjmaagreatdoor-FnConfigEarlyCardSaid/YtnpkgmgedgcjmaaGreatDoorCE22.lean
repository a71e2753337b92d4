/- The reference's row: samples in bytes. The reference's row: samples of 16 bits. The reference's writer of files: the signature, the chunks of the palette and of what is clear. No conditions but those in each theorem's own binders. -/
import Derived.Test.YtnpkgmgedgcjmaaGreatDoorCE20
import Derived.Test.YtnpkgmgedgcjmaaGreatDoorCE21
import Derived.Test.YtnpkgmgedgcjmaaGreatDoorCE9
namespace Go.Proofs.YtnpkgmgedgcjmaaGreatDoor
set_option linter.unusedVariables false
set_option linter.unusedSimpArgs false
open Go.RowKit Go.Png

/-- Whole numbers as cells. -/
def intsV (l : List Nat) : List Value := l.map fun x => .int .i64 (x : Nat)
@[simp] theorem intsV_length (l : List Nat) : (intsV l).length = l.length := by simp [intsV]
/-- A slice's address, and whole numbers that lie there. -/
def SlI (w : World) (a : Option Addr) (l : List Nat) : Prop := l = [] ∨ ∃ b off, a = some ⟨b, off, none⟩ ∧ ∀ i, i < l.length → w.cell? ⟨b, off + i, none⟩ = some (.int .i64 (l.getD i 0 : Nat))
theorem SlI.mod {w w' : World} {a : Option Addr} {l : List Nat} (h : SlI w a l) {S : Nat → Prop} (m : Mod S w w') (hS : ∀ k, k < w.heap.size → ¬ S k) : SlI w' a l := by
  rcases h with h | ⟨b, off, h1, h2⟩
  · exact Or.inl h
  · exact Or.inr ⟨b, off, h1, fun i hi => (m.cell (lt_of_cell (h2 i hi)) (hS _ (lt_of_cell (h2 i hi))) _).trans (h2 i hi)⟩
theorem SlI.some {w : World} {a : Option Addr} {l : List Nat} (h : SlI w a l) (i : Nat) (hi : i < l.length) : ∃ b off, a = some ⟨b, off, none⟩ ∧ w.cell? ⟨b, off + i, none⟩ = some (.int .i64 (l.getD i 0 : Nat)) := by
  rcases h with h | ⟨b, off, h1, h2⟩
  · rw [h] at hi; exact absurd hi (by simp)
  · exact ⟨b, off, h1, h2 i hi⟩

theorem getD_le {l : List Nat} {m : Nat} (h : ∀ x ∈ l, x < m) (i : Nat) (hm : 0 < m) : l.getD i 0 < m := by
  rw [List.getD_eq_getElem?_getD]
  cases hi : l[i]? with
  | none => simpa using hm
  | some x => exact h x (List.mem_of_getElem? hi)

/-- One sample more, where samples are less than a byte each. -/
def putBit (depth : Nat) (r : List UInt8) (j v : Nat) : List UInt8 :=
  let r2 := if j * depth % 8 = 0 then r ++ [0] else r
  r2.set (j * depth / 8) (r2.getD (j * depth / 8) 0 ||| UInt8.ofNat (v * 2 ^ (8 - depth - j * depth % 8)))
/-- The bytes of the first samples. -/
def rowP (depth : Nat) (l : List Nat) : Nat → List UInt8
  | 0 => []
  | j + 1 => if depth = 8 then rowP depth l j ++ [UInt8.ofNat (l.getD j 0)] else if depth = 16 then rowP depth l j ++ [UInt8.ofNat (l.getD j 0 / 256), UInt8.ofNat (l.getD j 0)] else putBit depth (rowP depth l j) j (l.getD j 0)
def rowL (depth : Nat) (l : List Nat) : List UInt8 := rowP depth l l.length

theorem rowP_length (depth : Nat) (hd : DepOk depth) (l : List Nat) (j : Nat) : (rowP depth l j).length = (j * depth + 7) / 8 := by
  induction j with
  | zero => simp [rowP]
  | succ j ih =>
    unfold rowP putBit
    rcases hd with rfl | rfl | rfl | rfl | rfl
    · simp only [reduceIte, Nat.reduceEqDiff]; split <;> simp [ih] <;> omega
    · simp only [reduceIte, Nat.reduceEqDiff]; split <;> simp [ih] <;> omega
    · simp only [reduceIte, Nat.reduceEqDiff]; split <;> simp [ih] <;> omega
    · simp [ih]; omega
    · simp [ih]; omega

set_option maxRecDepth 100000 in
set_option maxHeartbeats 4000000 in
theorem specRow8 (w : World) (a : Option Addr) (n c : Nat) (l : List Nat) (hl : l.length = n) (hs : SlI w a l) (hb : ∀ x ∈ l, x < 65536) (hn : n ≤ 1000000) :
    Calls Tryz.prog 76 #[.slice a n c, .int .i64 8] w fun e w' => ∃ g c, e = .returned (.slice (some ⟨g, 0, none⟩) n c) ∧ Own8 w' w.heap.size g c (rowL 8 l) ∧ Mod (fun _ => False) w w' := by
  have HS := Lib.hid hs; have HL := Lib.hid hl; have HB := Lib.hid hb
  have h0 := Own8.new w w.heap.size (Nat.le_refl _)
  have m0 : Mod (fun k => w.heap.size ≤ k) w (w.alloc (.cells #[] 5)) := (Mod.refl _ w).alloc _
  have H0 := Lib.hid h0; have M0 := Lib.hid m0
  clear hs hl hb h0 m0
  go_enter Tryz.func76, Tryz.ntmps76
  go_wp2
  go_loopg [5, 6, 7, 8, 12] (n - 0) (fun k v5 _ _ _ v12 wr => ∃ j g c : Nat, j ≤ n ∧ k = n - j ∧ v12 = .int .i64 j ∧ v5 = .slice (some ⟨g, 0, none⟩) j c ∧ Own8 wr w.heap.size g c (rowP 8 l j) ∧ Mod (fun k => w.heap.size ≤ k) w wr)
  case atStart => exact ⟨0, w.heap.size, 0, by omega, rfl, rfl, rfl, H0.out, M0.out⟩
  case round =>
    obtain ⟨j, g, c, hj, hkk, rfl, rfl, own, mm⟩ := hrel
    have hlen : (rowP 8 l j).length = j := by rw [rowP_length 8 (by unfold DepOk; omega)]; omega
    by_cases hlt : j < n
    · obtain ⟨b1, o1, rfl, -⟩ := HS.out.some j (by have := HL.out; omega)
      have s1 := HS.out.mod mm (fun k hk hs => by omega)
      obtain ⟨b1', o1', he1, hc1⟩ := s1.some j (by have := HL.out; omega)
      cases he1
      have hv := getD_le HB.out j (by decide)
      have hfs : rowP 8 l (j + 1) = rowP 8 l j ++ [UInt8.ofNat (l.getD j 0)] := by rw [rowP, if_pos rfl]
      have own' : wr.ownsRow w.heap.size 5 1 (.slice (some ⟨g, 0, none⟩) j c) j (bytesV (rowP 8 l j)) := by have h := own; unfold Own8 at h; rwa [hlen] at h
      have hg := own.base
      have HFS := Lib.hid hfs; have OWN := Lib.hid own'; have HM := Lib.hid mm; have HK := Lib.hid hkk
      clear hfs own own' mm hkk s1 hlen
      generalize l.getD j 0 = x at *
      go_wp2_with (at_builtin; go_must (refine wpList_app el8 rfl (.tmp 44) (.tmp 47) rfl w.heap.size (.slice (some ⟨g, 0, none⟩) j c) j (bytesV (rowP 8 l j)) rfl (World.ownsRow.alloc OWN.out _) ⟨wr.heap.size, 0, none⟩ 1 1 _ rfl rfl (news1 wr [_] _) (by simp [Value.oneCell']) (Or.inl (by simp)) (by omega) (by omega) (by have := HM.out.size; simp; omega) ?_; intro g2 c2 w2 hap))
      have hown := hap.out.own
      have hmod : Mod (fun k => w.heap.size ≤ k) w w2 := (HM.out.alloc _).trans (hap.out.mod.mono (fun k _ hk => by simp [Value.ownBlock] at hk; omega))
      have hown2 : Own8 w2 w.heap.size g2 c2 (rowP 8 l (j + 1)) := by
        have e : (x : Int) % 256 = (((UInt8.ofNat x).toNat : Nat) : Int) := by rw [UInt8.toNat_ofNat']; omega
        unfold Own8
        rw [rowP_length 8 (by unfold DepOk; omega), HFS.out, bytesV_append]
        rw [e] at hown
        have e2 : ((j + 1) * 8 + 7) / 8 = j + 1 := by omega
        rw [e2]
        exact hown
      have HOWN := Lib.hid hown2; have HMOD := Lib.hid hmod
      clear hown hmod hown2 hap HM OWN HFS
      go_wp2
      go_roundg (n - (j + 1))
      case measure => have := HK.out; omega
      case rel => exact ⟨j + 1, g2, c2, by omega, rfl, by go_num, rfl, HOWN.out, HMOD.out⟩
    · obtain rfl : j = n := by omega
      have HO := Lib.hid own; have HM := Lib.hid mm
      clear own mm hkk hlen
      go_wp2
      go_ret
      refine ⟨g, c, rfl, ?_, (Mod.refl (fun _ => False) w).then HM.out (fun k hk hs => by omega)⟩
      unfold rowL
      rw [HL.out]
      exact HO.out
end Go.Proofs.YtnpkgmgedgcjmaaGreatDoor
namespace Go.Proofs.YtnpkgmgedgcjmaaGreatDoor
set_option linter.unusedVariables false
set_option linter.unusedSimpArgs false
open Go.RowKit Go.Png

set_option maxRecDepth 100000 in
set_option maxHeartbeats 4000000 in
theorem specRow16 (w : World) (a : Option Addr) (n c : Nat) (l : List Nat) (hl : l.length = n) (hs : SlI w a l) (hb : ∀ x ∈ l, x < 65536) (hn : n ≤ 1000000) :
    Calls Tryz.prog 76 #[.slice a n c, .int .i64 16] w fun e w' => ∃ g c, e = .returned (.slice (some ⟨g, 0, none⟩) (n * 2) c) ∧ Own8 w' w.heap.size g c (rowL 16 l) ∧ Mod (fun _ => False) w w' := by
  have HS := Lib.hid hs; have HL := Lib.hid hl; have HB := Lib.hid hb
  have h0 := Own8.new w w.heap.size (Nat.le_refl _)
  have m0 : Mod (fun k => w.heap.size ≤ k) w (w.alloc (.cells #[] 5)) := (Mod.refl _ w).alloc _
  have H0 := Lib.hid h0; have M0 := Lib.hid m0
  clear hs hl hb h0 m0
  go_enter Tryz.func76, Tryz.ntmps76
  go_wp2
  go_loopg [5, 6, 7, 8, 12] (n - 0) (fun k v5 _ _ _ v12 wr => ∃ j g c : Nat, j ≤ n ∧ k = n - j ∧ v12 = .int .i64 j ∧ v5 = .slice (some ⟨g, 0, none⟩) (j * 2) c ∧ Own8 wr w.heap.size g c (rowP 16 l j) ∧ Mod (fun k => w.heap.size ≤ k) w wr)
  case atStart => exact ⟨0, w.heap.size, 0, by omega, rfl, rfl, rfl, H0.out, M0.out⟩
  case round =>
    obtain ⟨j, g, c, hj, hkk, rfl, rfl, own, mm⟩ := hrel
    have hlen : (rowP 16 l j).length = j * 2 := by rw [rowP_length 16 (by unfold DepOk; omega)]; omega
    by_cases hlt : j < n
    · obtain ⟨b1, o1, rfl, -⟩ := HS.out.some j (by have := HL.out; omega)
      have s1 := HS.out.mod mm (fun k hk hs => by omega)
      obtain ⟨b1', o1', he1, hc1⟩ := s1.some j (by have := HL.out; omega)
      cases he1
      have hv := getD_le HB.out j (by decide)
      have hfs : rowP 16 l (j + 1) = rowP 16 l j ++ [UInt8.ofNat (l.getD j 0 / 256), UInt8.ofNat (l.getD j 0)] := by rw [rowP, if_neg (by decide), if_pos rfl]
      have own' : wr.ownsRow w.heap.size 5 1 (.slice (some ⟨g, 0, none⟩) (j * 2) c) (j * 2) (bytesV (rowP 16 l j)) := by have h := own; unfold Own8 at h; rwa [hlen] at h
      have hg := own.base
      have HFS := Lib.hid hfs; have OWN := Lib.hid own'; have HM := Lib.hid mm; have HK := Lib.hid hkk
      clear hfs own own' mm hkk s1 hlen
      generalize l.getD j 0 = x at *
      go_wp2_with (at_builtin; go_must (refine wpList_app el8 rfl (.tmp 51) (.tmp 57) rfl w.heap.size (.slice (some ⟨g, 0, none⟩) (j * 2) c) (j * 2) (bytesV (rowP 16 l j)) rfl (World.ownsRow.alloc OWN.out _) ⟨wr.heap.size, 0, none⟩ 2 2 _ rfl rfl (news1 wr [_, _] _) (by simp [Value.oneCell']) (Or.inl (by simp)) (by omega) (by omega) (by have := HM.out.size; simp; omega) ?_; intro g2 c2 w2 hap))
      have hown := hap.out.own
      have hmod : Mod (fun k => w.heap.size ≤ k) w w2 := (HM.out.alloc _).trans (hap.out.mod.mono (fun k _ hk => by simp [Value.ownBlock] at hk; omega))
      have hown2 : Own8 w2 w.heap.size g2 c2 (rowP 16 l (j + 1)) := by
        have e : (x : Int) % 256 = (((UInt8.ofNat x).toNat : Nat) : Int) := by rw [UInt8.toNat_ofNat']; omega
        unfold Own8
        rw [rowP_length 16 (by unfold DepOk; omega), HFS.out, bytesV_append]
        have e3 : (x : Int) / 256 = (((UInt8.ofNat (x / 256)).toNat : Nat) : Int) := by rw [UInt8.toNat_ofNat']; omega
        rw [e, e3] at hown
        have e2 : ((j + 1) * 16 + 7) / 8 = j * 2 + 2 := by omega
        rw [e2]
        exact hown
      have HOWN := Lib.hid hown2; have HMOD := Lib.hid hmod
      clear hown hmod hown2 hap HM OWN HFS
      go_wp2
      go_roundg (n - (j + 1))
      case measure => have := HK.out; omega
      case rel => exact ⟨j + 1, g2, c2, by omega, rfl, by go_num, by rw [Nat.succ_mul], HOWN.out, HMOD.out⟩
    · obtain rfl : j = n := by omega
      have HO := Lib.hid own; have HM := Lib.hid mm
      clear own mm hkk hlen
      go_wp2
      go_ret
      refine ⟨g, c, rfl, ?_, (Mod.refl (fun _ => False) w).then HM.out (fun k hk hs => by omega)⟩
      unfold rowL
      rw [HL.out]
      exact HO.out
end Go.Proofs.YtnpkgmgedgcjmaaGreatDoor
namespace Go.Proofs.YtnpkgmgedgcjmaaGreatDoor
set_option linter.unusedVariables false
set_option linter.unusedSimpArgs false
open Go.RowKit Go.Png

theorem sigStr : sigL.length = 8 := rfl

set_option maxRecDepth 100000 in
theorem specSignature (w : World) : Calls Tryz.prog 45 #[] w fun e w' => ∃ g, e = .returned (.slice (some ⟨g, 0, none⟩) 8 8) ∧ Own8 w' w.heap.size g 8 sigL ∧ Mod (fun _ => False) w w' := by
  go_enter Tryz.func45, Tryz.ntmps45
  go_wp2
  go_ret
  refine ⟨_, rfl, ?_, (Mod.refl _ w).alloc _⟩
  exact World.ownsRow_lit (size := 1) w (bytesV sigL).toArray 8 (Nat.le_refl _) (by unfold maxLen; omega) rfl

def plteL (n : Nat) (l : List UInt8) : List UInt8 := if n = 0 then [] else chunkL nPLTE l
def trnsL (b : Bool) (l : List UInt8) : List UInt8 := if b then chunkL ntRNS l else []
def clearC (l : List Nat) : List UInt8 := if l = [] then [] else chunkL ntRNS (rowL 16 l)

set_option maxRecDepth 100000 in
set_option maxHeartbeats 1000000 in
theorem write_plte (w : World) (base : Nat) (pa : Option Addr) (pn pc g n c g1 c1 : Nat) (ol sl : List UInt8) (hbase : base ≤ w.heap.size) (hown : Own8 w base g c ol) (hol : ol.length = n) (hsl : sl.length = 3 * pn) (hs : SlB w (some ⟨g1, 0, none⟩) sl) (hn : n ≤ 1000000000) (hpn : pn ≤ 1000000)
    (u0 u1 u3 u4 u5 u6 u7 u8 u9 u10 u11 u12 u13 u14 u15 u16 u19 u20 u21 u22 u23 u24 u25 u26 u27 u28 u29 u30 u31 u32 u33 u34 u35 u36 u37 u38 u39 u40 u41 u42 u43 u44 u45 u46 u47 u48 u49 u50 u51 u52 u53 u54 u55 u56 u57 u58 u59 u60 u61 u62 u63 u64 u65 u66 u67 u68 u69 u70 u71 u72 u73 u74 u75 u76 u77 u78 u79 u80 u81 u82 u83 u84 u85 u86 u87 u88 u89 u90 u91 u92 u93 u94 u95 u96 u97 u98 u99 u100 u101 u102 u103 u104 u105 u106 u107 u108 u109 u110 u111 u112 u113 u114 u115 u116 u117 u118 u119 u120 u121 u122 u123 u124 u125 u126 u127 u128 u129 u130 u131 u132 u133 u134 u135 u136 u137 u138 u139 u140 u141 u142 u143 u144 u145 u146 u147 u148 u149 u150 u151 u152 u153 u154 u155 u156 u157 u158 u159 u160 u161 u162 u163 u164 u165 u166 u167 u168 u169 u170 : Value) (Q : Exit → Act → World → Prop)
    (hQ : ∀ w' g' c' (v89 v90 v91 v92 v93 v94 v95 : Value), Own8 w' base g' c' (ol ++ plteL pn sl) → Mod (fun k => k = g) w w' → (g' = g ∨ w.heap.size ≤ g') →
       Q .normal ⟨#[u0, u1, .slice pa pn pc, u3, u4, u5, u6, u7, u8, u9, u10, u11, u12, u13, u14, u15, u16, .slice (some ⟨g', 0, none⟩) (ol ++ plteL pn sl).length c', .slice (some ⟨g1, 0, none⟩) (3 * pn) c1, u19, u20, u21, u22, u23, u24, u25, u26, u27, u28, u29, u30, u31, u32, u33, u34, u35, u36, u37, u38, u39, u40, u41, u42, u43, u44, u45, u46, u47, u48, u49, u50, u51, u52, u53, u54, u55, u56, u57, u58, u59, u60, u61, u62, u63, u64, u65, u66, u67, u68, u69, u70, u71, u72, u73, u74, u75, u76, u77, u78, u79, u80, u81, u82, u83, u84, u85, u86, u87, u88, v89, v90, v91, v92, v93, v94, v95, u96, u97, u98, u99, u100, u101, u102, u103, u104, u105, u106, u107, u108, u109, u110, u111, u112, u113, u114, u115, u116, u117, u118, u119, u120, u121, u122, u123, u124, u125, u126, u127, u128, u129, u130, u131, u132, u133, u134, u135, u136, u137, u138, u139, u140, u141, u142, u143, u144, u145, u146, u147, u148, u149, u150, u151, u152, u153, u154, u155, u156, u157, u158, u159, u160, u161, u162, u163, u164, u165, u166, u167, u168, u169, u170], []⟩ w') :
    Code.wp Tryz.prog (navc [1, 1, 1, 1, 1, 1, 1, 0] (textOf Tryz.f40)) Q
      ⟨#[u0, u1, .slice pa pn pc, u3, u4, u5, u6, u7, u8, u9, u10, u11, u12, u13, u14, u15, u16, .slice (some ⟨g, 0, none⟩) n c, .slice (some ⟨g1, 0, none⟩) (3 * pn) c1, u19, u20, u21, u22, u23, u24, u25, u26, u27, u28, u29, u30, u31, u32, u33, u34, u35, u36, u37, u38, u39, u40, u41, u42, u43, u44, u45, u46, u47, u48, u49, u50, u51, u52, u53, u54, u55, u56, u57, u58, u59, u60, u61, u62, u63, u64, u65, u66, u67, u68, u69, u70, u71, u72, u73, u74, u75, u76, u77, u78, u79, u80, u81, u82, u83, u84, u85, u86, u87, u88, u89, u90, u91, u92, u93, u94, u95, u96, u97, u98, u99, u100, u101, u102, u103, u104, u105, u106, u107, u108, u109, u110, u111, u112, u113, u114, u115, u116, u117, u118, u119, u120, u121, u122, u123, u124, u125, u126, u127, u128, u129, u130, u131, u132, u133, u134, u135, u136, u137, u138, u139, u140, u141, u142, u143, u144, u145, u146, u147, u148, u149, u150, u151, u152, u153, u154, u155, u156, u157, u158, u159, u160, u161, u162, u163, u164, u165, u166, u167, u168, u169, u170], []⟩ w := by
  conv => arg 2; whnf
  dsimp only
  subst hol
  by_cases h0 : pn = 0
  · subst h0
    have hq := hQ
    simp only [plteL, if_pos, List.append_nil] at hq
    have HQ := Lib.hid hq; have HOWN := Lib.hid hown
    clear hQ hq hown hs
    go_wp2
    exact HQ.out w g c _ _ _ _ _ _ _ HOWN.out (Mod.refl _ _) (Or.inl rfl)
  · have hp : 0 < pn := by omega
    have hq := hQ
    simp only [plteL, if_neg h0] at hq
    have hch := specChunk w nPLTE sl (some ⟨g1, 0, none⟩) (3 * pn) c1 rfl hsl hs (fun h => by omega) (by omega)
    have hlen : (chunkL nPLTE sl).length = 12 + 3 * pn := by rw [chunkL_length _ _ rfl, hsl]
    have HQ := Lib.hid hq; have HOWN := Lib.hid hown; have HCH := Lib.hid hch; have HLEN := Lib.hid hlen
    clear hQ hq hown hs hch hlen h0 hsl
    go_wp2_with (fail)
    refine HCH.out.mono ?_
    rintro e w2 ⟨g2, c2, rfl, own2, m2⟩
    have O2 := Lib.hid own2; have M2 := Lib.hid m2
    clear own2 m2 HCH
    go_wp2_with (at_builtin; go_must (refine wpList_app8 rfl (.tmp 92) (.tmp 94) rfl base g ol.length c ol rfl rfl (HOWN.out.mod M2.out id) (some ⟨g2, 0, none⟩) (12 + 3 * pn) c2 (chunkL nPLTE sl) HLEN.out O2.out.slb rfl (fun h => by omega) (by omega) (Nat.le_trans hbase M2.out.size) ?_; intro g3 c3 w3 hown3 hm3 hg3))
    have hl3 : ol.length + (12 + 3 * pn) = (ol ++ chunkL nPLTE sl).length := by rw [List.length_append, HLEN.out]
    rw [hl3]
    refine HQ.out w3 g3 c3 _ _ _ _ _ _ _ hown3.out ((M2.out.mono (fun _ _ h => h.elim)).trans hm3.out) ?_
    rcases hg3.out with h | h
    · exact Or.inl h
    · exact Or.inr (by rw [h]; exact M2.out.size)

set_option maxRecDepth 100000 in
set_option maxHeartbeats 1000000 in
theorem write_trns (w : World) (base : Nat) (pn g n c g2 c2 : Nat) (any : Bool) (ol sl : List UInt8) (hbase : base ≤ w.heap.size) (hown : Own8 w base g c ol) (hol : ol.length = n) (hsl : sl.length = pn) (hs : SlB w (some ⟨g2, 0, none⟩) sl) (hn : n ≤ 1000000000) (hpn : pn ≤ 1000000)
    (u0 u1 u2 u3 u4 u5 u6 u7 u8 u9 u10 u11 u12 u13 u14 u15 u16 u18 u21 u22 u23 u24 u25 u26 u27 u28 u29 u30 u31 u32 u33 u34 u35 u36 u37 u38 u39 u40 u41 u42 u43 u44 u45 u46 u47 u48 u49 u50 u51 u52 u53 u54 u55 u56 u57 u58 u59 u60 u61 u62 u63 u64 u65 u66 u67 u68 u69 u70 u71 u72 u73 u74 u75 u76 u77 u78 u79 u80 u81 u82 u83 u84 u85 u86 u87 u88 u89 u90 u91 u92 u93 u94 u95 u96 u97 u98 u99 u100 u101 u102 u103 u104 u105 u106 u107 u108 u109 u110 u111 u112 u113 u114 u115 u116 u117 u118 u119 u120 u121 u122 u123 u124 u125 u126 u127 u128 u129 u130 u131 u132 u133 u134 u135 u136 u137 u138 u139 u140 u141 u142 u143 u144 u145 u146 u147 u148 u149 u150 u151 u152 u153 u154 u155 u156 u157 u158 u159 u160 u161 u162 u163 u164 u165 u166 u167 u168 u169 u170 : Value) (Q : Exit → Act → World → Prop)
    (hQ : ∀ w' g' c' (v96 v97 v98 v99 v100 : Value), Own8 w' base g' c' (ol ++ trnsL any sl) → Mod (fun k => k = g) w w' → (g' = g ∨ w.heap.size ≤ g') →
       Q .normal ⟨#[u0, u1, u2, u3, u4, u5, u6, u7, u8, u9, u10, u11, u12, u13, u14, u15, u16, .slice (some ⟨g', 0, none⟩) (ol ++ trnsL any sl).length c', u18, .slice (some ⟨g2, 0, none⟩) pn c2, .bool any, u21, u22, u23, u24, u25, u26, u27, u28, u29, u30, u31, u32, u33, u34, u35, u36, u37, u38, u39, u40, u41, u42, u43, u44, u45, u46, u47, u48, u49, u50, u51, u52, u53, u54, u55, u56, u57, u58, u59, u60, u61, u62, u63, u64, u65, u66, u67, u68, u69, u70, u71, u72, u73, u74, u75, u76, u77, u78, u79, u80, u81, u82, u83, u84, u85, u86, u87, u88, u89, u90, u91, u92, u93, u94, u95, v96, v97, v98, v99, v100, u101, u102, u103, u104, u105, u106, u107, u108, u109, u110, u111, u112, u113, u114, u115, u116, u117, u118, u119, u120, u121, u122, u123, u124, u125, u126, u127, u128, u129, u130, u131, u132, u133, u134, u135, u136, u137, u138, u139, u140, u141, u142, u143, u144, u145, u146, u147, u148, u149, u150, u151, u152, u153, u154, u155, u156, u157, u158, u159, u160, u161, u162, u163, u164, u165, u166, u167, u168, u169, u170], []⟩ w') :
    Code.wp Tryz.prog (navc [1, 1, 1, 1, 1, 1, 1, 1, 0] (textOf Tryz.f40)) Q
      ⟨#[u0, u1, u2, u3, u4, u5, u6, u7, u8, u9, u10, u11, u12, u13, u14, u15, u16, .slice (some ⟨g, 0, none⟩) n c, u18, .slice (some ⟨g2, 0, none⟩) pn c2, .bool any, u21, u22, u23, u24, u25, u26, u27, u28, u29, u30, u31, u32, u33, u34, u35, u36, u37, u38, u39, u40, u41, u42, u43, u44, u45, u46, u47, u48, u49, u50, u51, u52, u53, u54, u55, u56, u57, u58, u59, u60, u61, u62, u63, u64, u65, u66, u67, u68, u69, u70, u71, u72, u73, u74, u75, u76, u77, u78, u79, u80, u81, u82, u83, u84, u85, u86, u87, u88, u89, u90, u91, u92, u93, u94, u95, u96, u97, u98, u99, u100, u101, u102, u103, u104, u105, u106, u107, u108, u109, u110, u111, u112, u113, u114, u115, u116, u117, u118, u119, u120, u121, u122, u123, u124, u125, u126, u127, u128, u129, u130, u131, u132, u133, u134, u135, u136, u137, u138, u139, u140, u141, u142, u143, u144, u145, u146, u147, u148, u149, u150, u151, u152, u153, u154, u155, u156, u157, u158, u159, u160, u161, u162, u163, u164, u165, u166, u167, u168, u169, u170], []⟩ w := by
  conv => arg 2; whnf
  dsimp only
  subst hol
  cases any
  · have hq := hQ
    simp only [trnsL, List.append_nil, Bool.false_eq_true, if_false] at hq
    have HQ := Lib.hid hq; have HOWN := Lib.hid hown
    clear hQ hq hown hs
    go_wp2
    exact HQ.out w g c _ _ _ _ _ HOWN.out (Mod.refl _ _) (Or.inl rfl)
  · have hq := hQ
    simp only [trnsL, if_true] at hq
    have hch := specChunk w ntRNS sl (some ⟨g2, 0, none⟩) pn c2 rfl hsl hs (fun h => Or.inr ⟨_, _, rfl⟩) (by omega)
    have hlen : (chunkL ntRNS sl).length = 12 + pn := by rw [chunkL_length _ _ rfl, hsl]
    have HQ := Lib.hid hq; have HOWN := Lib.hid hown; have HCH := Lib.hid hch; have HLEN := Lib.hid hlen
    clear hQ hq hown hs hch hlen hsl
    go_wp2_with (fail)
    refine HCH.out.mono ?_
    rintro e w2 ⟨g3, c3, rfl, own2, m2⟩
    have O2 := Lib.hid own2; have M2 := Lib.hid m2
    clear own2 m2 HCH
    go_wp2_with (at_builtin; go_must (refine wpList_app8 rfl (.tmp 97) (.tmp 99) rfl base g ol.length c ol rfl rfl (HOWN.out.mod M2.out id) (some ⟨g3, 0, none⟩) (12 + pn) c3 (chunkL ntRNS sl) HLEN.out O2.out.slb rfl (fun h => by omega) (by omega) (Nat.le_trans hbase M2.out.size) ?_; intro g4 c4 w3 hown3 hm3 hg3))
    have hl3 : ol.length + (12 + pn) = (ol ++ chunkL ntRNS sl).length := by rw [List.length_append, HLEN.out]
    rw [hl3]
    refine HQ.out w3 g4 c4 _ _ _ _ _ hown3.out ((M2.out.mono (fun _ _ h => h.elim)).trans hm3.out) ?_
    rcases hg3.out with h | h
    · exact Or.inl h
    · exact Or.inr (by rw [h]; exact M2.out.size)
end Go.Proofs.YtnpkgmgedgcjmaaGreatDoor
