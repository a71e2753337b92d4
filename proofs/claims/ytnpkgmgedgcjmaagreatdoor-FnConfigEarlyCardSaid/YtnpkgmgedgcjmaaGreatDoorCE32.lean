/- The reference's writer of files: the chunk of the samples that are clear. No conditions but those in each theorem's own binders. -/
import Derived.Test.YtnpkgmgedgcjmaaGreatDoorCE22
namespace Go.Proofs.YtnpkgmgedgcjmaaGreatDoor
set_option linter.unusedVariables false
set_option linter.unusedSimpArgs false
open Go.RowKit Go.Png

set_option maxRecDepth 100000 in
set_option maxHeartbeats 4000000 in
theorem clear_loop (w : World) (base : Nat) (a : Option Addr) (n c g0 : Nat) (l : List Nat) (hbase : base ≤ w.heap.size) (hown : Own8 w base g0 0 []) (hl : l.length = n) (hs : SlI w a l) (hsl : ∀ w', Mod (fun k => k = g0) w w' → SlI w' a l) (hb : ∀ x ∈ l, x < 65536) (hn : n ≤ 1000000)
    (u0 u1 u2 u4 u5 u6 u7 u8 u9 u10 u11 u12 u13 u14 u15 u16 u17 u18 u20 u21 u22 u23 u24 u25 u26 u27 u28 u29 u30 u31 u32 u33 u34 u35 u36 u37 u38 u39 u40 u41 u42 u43 u44 u45 u46 u47 u48 u49 u50 u51 u52 u53 u54 u55 u56 u57 u58 u59 u60 u61 u62 u63 u64 u65 u66 u67 u68 u69 u70 u71 u72 u73 u74 u75 u76 u77 u78 u79 u80 u81 u82 u83 u84 u85 u86 u87 u88 u89 u90 u91 u92 u93 u94 u95 u96 u97 u98 u99 u100 u101 u102 u103 u104 u108 u109 u110 u111 u112 u113 u114 u115 u116 u117 u118 u119 u120 u121 u122 u123 u124 u125 u126 u127 u128 u129 u130 u131 u132 u133 u134 u135 u136 u137 u138 u139 u140 u141 u142 u143 u144 u145 u146 u147 u148 u149 u150 u151 u152 u153 u154 u155 u156 u157 u158 u159 u160 u161 u162 u163 u164 u165 u166 u167 u168 u169 u170 : Value) (Q : Exit → Act → World → Prop)
    (hQ : ∀ w' g c' (v24 v108 v109 v110 v111 v112 v113 v114 v115 v116 v117 v118 v119 : Value), Own8 w' base g c' (rowL 16 l) → Mod (fun k => k = g0) w w' → (g = g0 ∨ w.heap.size ≤ g) →
       Q .normal ⟨#[u0, u1, u2, .slice a n c, u4, u5, u6, u7, u8, u9, u10, u11, u12, u13, u14, u15, u16, u17, u18, .slice (some ⟨g, 0, none⟩) (n * 2) c', u20, u21, u22, u23, v24, u25, u26, u27, u28, u29, u30, u31, u32, u33, u34, u35, u36, u37, u38, u39, u40, u41, u42, u43, u44, u45, u46, u47, u48, u49, u50, u51, u52, u53, u54, u55, u56, u57, u58, u59, u60, u61, u62, u63, u64, u65, u66, u67, u68, u69, u70, u71, u72, u73, u74, u75, u76, u77, u78, u79, u80, u81, u82, u83, u84, u85, u86, u87, u88, u89, u90, u91, u92, u93, u94, u95, u96, u97, u98, u99, u100, u101, u102, u103, u104, .slice a n c, .int .i64 n, .int .i64 n, v108, v109, v110, v111, v112, v113, v114, v115, v116, v117, v118, v119, u120, u121, u122, u123, u124, u125, u126, u127, u128, u129, u130, u131, u132, u133, u134, u135, u136, u137, u138, u139, u140, u141, u142, u143, u144, u145, u146, u147, u148, u149, u150, u151, u152, u153, u154, u155, u156, u157, u158, u159, u160, u161, u162, u163, u164, u165, u166, u167, u168, u169, u170], []⟩ w') :
    Code.wp Tryz.prog (navc [1, 1, 1, 1, 1, 1, 1, 1, 1, 0, 1, 0, 1, 0, 1] (textOf Tryz.f40)) Q
      ⟨#[u0, u1, u2, .slice a n c, u4, u5, u6, u7, u8, u9, u10, u11, u12, u13, u14, u15, u16, u17, u18, .slice (some ⟨g0, 0, none⟩) 0 0, u20, u21, u22, u23, u24, u25, u26, u27, u28, u29, u30, u31, u32, u33, u34, u35, u36, u37, u38, u39, u40, u41, u42, u43, u44, u45, u46, u47, u48, u49, u50, u51, u52, u53, u54, u55, u56, u57, u58, u59, u60, u61, u62, u63, u64, u65, u66, u67, u68, u69, u70, u71, u72, u73, u74, u75, u76, u77, u78, u79, u80, u81, u82, u83, u84, u85, u86, u87, u88, u89, u90, u91, u92, u93, u94, u95, u96, u97, u98, u99, u100, u101, u102, u103, u104, .slice a n c, .int .i64 n, .int .i64 0, u108, u109, u110, u111, u112, u113, u114, u115, u116, u117, u118, u119, u120, u121, u122, u123, u124, u125, u126, u127, u128, u129, u130, u131, u132, u133, u134, u135, u136, u137, u138, u139, u140, u141, u142, u143, u144, u145, u146, u147, u148, u149, u150, u151, u152, u153, u154, u155, u156, u157, u158, u159, u160, u161, u162, u163, u164, u165, u166, u167, u168, u169, u170], []⟩ w := by
  conv => arg 2; whnf
  dsimp only
  have HQ := Lib.hid hQ; have HS := Lib.hid hs; have HSL := Lib.hid hsl; have HL := Lib.hid hl; have HB := Lib.hid hb; have H0 := Lib.hid hown
  clear hs hl hb hQ hsl hown
  go_wp2
  go_loopg [19, 24, 107] (n - 0) (fun k v19 _ v107 wr => ∃ j g c : Nat, j ≤ n ∧ k = n - j ∧ v107 = .int .i64 j ∧ v19 = .slice (some ⟨g, 0, none⟩) (j * 2) c ∧ Own8 wr base g c (rowP 16 l j) ∧ Mod (fun k => k = g0) w wr ∧ (g = g0 ∨ w.heap.size ≤ g))
  case atStart => exact ⟨0, g0, 0, by omega, rfl, rfl, rfl, H0.out, Mod.refl _ _, Or.inl rfl⟩
  case round =>
    obtain ⟨j, g, c, hj, hkk, rfl, rfl, own, mm, hg0⟩ := hrel
    have hlen : (rowP 16 l j).length = j * 2 := by rw [rowP_length 16 (by unfold DepOk; omega)]; omega
    by_cases hlt : j < n
    · obtain ⟨b1, o1, rfl, -⟩ := HS.out.some j (by have := HL.out; omega)
      have s1 := HSL.out _ mm
      obtain ⟨b1', o1', he1, hc1⟩ := s1.some j (by have := HL.out; omega)
      cases he1
      have hv := getD_le HB.out j (by decide)
      have hfs : rowP 16 l (j + 1) = rowP 16 l j ++ [UInt8.ofNat (l.getD j 0 / 256), UInt8.ofNat (l.getD j 0)] := by rw [rowP, if_neg (by decide), if_pos rfl]
      have hg := own.base
      have hws := mm.size
      have HFS := Lib.hid hfs; have OWN := Lib.hid own; have HM := Lib.hid mm; have HK := Lib.hid hkk; have HLEN := Lib.hid hlen
      clear hfs own mm hkk s1 hlen
      generalize l.getD j 0 = x at *
      have e : (x : Int) % 256 = (((UInt8.ofNat x).toNat : Nat) : Int) := by rw [UInt8.toNat_ofNat']; omega
      have e3 : (x : Int) / 256 = (((UInt8.ofNat (x / 256)).toNat : Nat) : Int) := by rw [UInt8.toNat_ofNat']; omega
      have hby : Bytes (wr.alloc (.cells #[.int .u8 ((x : Int) / 256), .int .u8 ((x : Int) % 256)] 5)) wr.heap.size 0 [UInt8.ofNat (x / 256), UInt8.ofNat x] := by
        rw [e, e3]; exact bytes_new wr _ _ _ rfl
      have HBY := Lib.hid hby
      clear e e3 hby
      go_wp2_with (at_builtin; go_must (refine wpList_app8 rfl (.tmp 111) (.tmp 117) rfl base g (j * 2) c (rowP 16 l j) HLEN.out rfl (OWN.out.mod ((Mod.refl (fun _ => False) wr).alloc _) id) (some ⟨wr.heap.size, 0, none⟩) 2 2 [UInt8.ofNat (x / 256), UInt8.ofNat x] rfl (Or.inr ⟨_, _, rfl, HBY.out⟩) rfl (fun h => by omega) (by omega) (by simp; omega) ?_; intro g2 c2 w2 hown2 hm2 hg2))
      have hmod : Mod (fun k => k = g0) w w2 := HM.out.then (((Mod.refl _ wr).alloc _).trans hm2.out) (fun k hk h => by omega)
      have hown := hown2.out
      rw [← HFS.out] at hown
      have hg3 : g2 = g0 ∨ w.heap.size ≤ g2 := by
        rcases hg2.out with h | h
        · omega
        · right; rw [h]; simp; omega
      have HOWN := Lib.hid hown; have HMOD := Lib.hid hmod
      clear hown hmod hown2 hm2 HM OWN HFS hg2
      go_roundg (n - (j + 1))
      case measure => have := HK.out; omega
      case rel => exact ⟨j + 1, g2, c2, by omega, rfl, by go_num, by rw [Nat.succ_mul], HOWN.out, HMOD.out, hg3⟩
    · obtain rfl : j = n := by omega
      have HO := Lib.hid own; have HM := Lib.hid mm
      clear own mm hkk hlen
      go_wp2
      refine HQ.out _ g c _ _ _ _ _ _ _ _ _ _ _ _ _ ?_ HM.out hg0
      unfold rowL
      rw [HL.out]
      exact HO.out

set_option maxRecDepth 100000 in
set_option maxHeartbeats 1000000 in
theorem write_clear (w : World) (base : Nat) (a : Option Addr) (cn cc g n c : Nat) (l : List Nat) (ol : List UInt8) (v19 : Value) (hbase : base ≤ w.heap.size) (hown : Own8 w base g c ol) (hol : ol.length = n) (hl : l.length = cn) (hsl : ∀ w', Mod (fun k => w.heap.size ≤ k) w w' → SlI w' a l) (hb : ∀ x ∈ l, x < 65536) (hcn : cn ≤ 1000000) (hn : n ≤ 1000000000)
    (u0 u1 u2 u4 u5 u6 u7 u8 u9 u10 u11 u12 u13 u14 u15 u16 u18 u20 u21 u22 u23 u24 u25 u26 u27 u28 u29 u30 u31 u32 u33 u34 u35 u36 u37 u38 u39 u40 u41 u42 u43 u44 u45 u46 u47 u48 u49 u50 u51 u52 u53 u54 u55 u56 u57 u58 u59 u60 u61 u62 u63 u64 u65 u66 u67 u68 u69 u70 u71 u72 u73 u74 u75 u76 u77 u78 u79 u80 u81 u82 u83 u84 u85 u86 u87 u88 u89 u90 u91 u92 u93 u94 u95 u96 u97 u98 u99 u100 u101 u102 u103 u104 u105 u106 u107 u108 u109 u110 u111 u112 u113 u114 u115 u116 u117 u118 u119 u120 u121 u122 u123 u124 u125 u126 u127 u128 u129 u130 u131 u132 u133 u134 u135 u136 u137 u138 u139 u140 u141 u142 u143 u144 u145 u146 u147 u148 u149 u150 u151 u152 u153 u154 u155 u156 u157 u158 u159 u160 u161 u162 u163 u164 u165 u166 u167 u168 u169 u170 : Value) (Q : Exit → Act → World → Prop)
    (hQ : ∀ w' g' c' (v19 v24 v101 v102 v103 v104 v105 v106 v107 v108 v109 v110 v111 v112 v113 v114 v115 v116 v117 v118 v119 v120 v121 v122 v123 : Value), Own8 w' base g' c' (ol ++ clearC l) → Mod (fun k => k = g) w w' → (g' = g ∨ w.heap.size ≤ g') →
       Q .normal ⟨#[u0, u1, u2, .slice a cn cc, u4, u5, u6, u7, u8, u9, u10, u11, u12, u13, u14, u15, u16, .slice (some ⟨g', 0, none⟩) (ol ++ clearC l).length c', u18, v19, u20, u21, u22, u23, v24, u25, u26, u27, u28, u29, u30, u31, u32, u33, u34, u35, u36, u37, u38, u39, u40, u41, u42, u43, u44, u45, u46, u47, u48, u49, u50, u51, u52, u53, u54, u55, u56, u57, u58, u59, u60, u61, u62, u63, u64, u65, u66, u67, u68, u69, u70, u71, u72, u73, u74, u75, u76, u77, u78, u79, u80, u81, u82, u83, u84, u85, u86, u87, u88, u89, u90, u91, u92, u93, u94, u95, u96, u97, u98, u99, u100, v101, v102, v103, v104, v105, v106, v107, v108, v109, v110, v111, v112, v113, v114, v115, v116, v117, v118, v119, v120, v121, v122, v123, u124, u125, u126, u127, u128, u129, u130, u131, u132, u133, u134, u135, u136, u137, u138, u139, u140, u141, u142, u143, u144, u145, u146, u147, u148, u149, u150, u151, u152, u153, u154, u155, u156, u157, u158, u159, u160, u161, u162, u163, u164, u165, u166, u167, u168, u169, u170], []⟩ w') :
    Code.wp Tryz.prog (navc [1, 1, 1, 1, 1, 1, 1, 1, 1, 0] (textOf Tryz.f40)) Q
      ⟨#[u0, u1, u2, .slice a cn cc, u4, u5, u6, u7, u8, u9, u10, u11, u12, u13, u14, u15, u16, .slice (some ⟨g, 0, none⟩) n c, u18, v19, u20, u21, u22, u23, u24, u25, u26, u27, u28, u29, u30, u31, u32, u33, u34, u35, u36, u37, u38, u39, u40, u41, u42, u43, u44, u45, u46, u47, u48, u49, u50, u51, u52, u53, u54, u55, u56, u57, u58, u59, u60, u61, u62, u63, u64, u65, u66, u67, u68, u69, u70, u71, u72, u73, u74, u75, u76, u77, u78, u79, u80, u81, u82, u83, u84, u85, u86, u87, u88, u89, u90, u91, u92, u93, u94, u95, u96, u97, u98, u99, u100, u101, u102, u103, u104, u105, u106, u107, u108, u109, u110, u111, u112, u113, u114, u115, u116, u117, u118, u119, u120, u121, u122, u123, u124, u125, u126, u127, u128, u129, u130, u131, u132, u133, u134, u135, u136, u137, u138, u139, u140, u141, u142, u143, u144, u145, u146, u147, u148, u149, u150, u151, u152, u153, u154, u155, u156, u157, u158, u159, u160, u161, u162, u163, u164, u165, u166, u167, u168, u169, u170], []⟩ w := by
  conv => arg 2; whnf
  dsimp only
  subst hol
  by_cases h0 : l = []
  · have hq := hQ
    simp only [clearC, if_pos h0, List.append_nil] at hq
    obtain rfl : cn = 0 := by rw [← hl, h0]; rfl
    have HQ := Lib.hid hq; have HOWN := Lib.hid hown
    clear hQ hq hown hsl hl h0
    go_wp2
    exact HQ.out w g c _ _ _ _ _ _ _ _ _ _ _ _ _ _ _ _ _ _ _ _ _ _ _ _ _ HOWN.out (Mod.refl _ _) (Or.inl rfl)
  · have hp : 0 < cn := by rw [← hl]; exact List.length_pos_iff.2 h0
    have hq := hQ
    simp only [clearC, if_neg h0] at hq
    have hz := Own8.new w w.heap.size (Nat.le_refl _)
    have m0 : Mod (fun _ => False) w (w.alloc (.cells #[] 5)) := (Mod.refl _ w).alloc _
    have hrl : (rowL 16 l).length = 2 * cn := by unfold rowL; rw [rowP_length 16 (by unfold DepOk; omega), hl]; omega
    have hlen : (chunkL ntRNS (rowL 16 l)).length = 12 + 2 * cn := by rw [chunkL_length _ _ rfl, hrl]
    have hsz : (w.alloc (.cells #[] 5)).heap.size = w.heap.size + 1 := by simp
    have HQ := Lib.hid hq; have HOWN := Lib.hid hown; have HZ := Lib.hid hz; have M0 := Lib.hid m0; have HSL := Lib.hid hsl; have HL := Lib.hid hl; have HB := Lib.hid hb; have HRL := Lib.hid hrl; have HLEN := Lib.hid hlen; have HSZ := Lib.hid hsz
    clear hQ hq hown hsl hl h0 hz m0 hb hrl hlen hsz
    go_upto_block 2 with fail
    refine clear_loop _ w.heap.size a cn cc w.heap.size l (by have := HSZ.out; omega) HZ.out HL.out (HSL.out _ ((M0.out).mono (fun _ _ h => h.elim))) (fun w' m => HSL.out w' ((M0.out.mono (fun _ _ h => h.elim)).trans (m.mono (fun k _ hk => by omega)))) HB.out hcn _ _ _ _ _ _ _ _ _ _ _ _ _ _ _ _ _ _ _ _ _ _ _ _ _ _ _ _ _ _ _ _ _ _ _ _ _ _ _ _ _ _ _ _ _ _ _ _ _ _ _ _ _ _ _ _ _ _ _ _ _ _ _ _ _ _ _ _ _ _ _ _ _ _ _ _ _ _ _ _ _ _ _ _ _ _ _ _ _ _ _ _ _ _ _ _ _ _ _ _ _ _ _ _ _ _ _ _ _ _ _ _ _ _ _ _ _ _ _ _ _ _ _ _ _ _ _ _ _ _ _ _ _ _ _ _ _ _ _ _ _ _ _ _ _ _ _ _ _ _ _ _ _ _ _ _ _ _ _ _ _ _ _ _ _ _ _ ?_
    intro w1 g1 c1 _ _ _ _ _ _ _ _ _ _ _ _ _ own1 m1 hg1
    have hm1 : Mod (fun _ => False) w w1 := M0.out.then m1 (fun k hk h => by omega)
    have hch := specChunk w1 ntRNS (rowL 16 l) (some ⟨g1, 0, none⟩) (cn * 2) c1 rfl (by have := HRL.out; omega) own1.slb (fun h => Or.inr ⟨_, _, rfl⟩) (by omega)
    have HCH := Lib.hid hch; have HM1 := Lib.hid hm1
    clear hch hm1 own1 m1 hg1 HZ M0 HSL HB
    go_wp2_with (fail)
    refine HCH.out.mono ?_
    rintro e w2 ⟨g3, c3, rfl, own2, m2⟩
    have O2 := Lib.hid own2; have M2 := Lib.hid (HM1.out.trans m2)
    clear own2 m2 HCH HM1
    go_wp2_with (at_builtin; go_must (refine wpList_app8 rfl (.tmp 120) (.tmp 122) rfl base g ol.length c ol rfl rfl (HOWN.out.mod M2.out id) (some ⟨g3, 0, none⟩) (12 + cn * 2) c3 (chunkL ntRNS (rowL 16 l)) (by have := HLEN.out; omega) O2.out.slb rfl (fun h => by omega) (by omega) (Nat.le_trans hbase M2.out.size) ?_; intro g4 c4 w3 hown3 hm3 hg3))
    have hl3 : ol.length + (12 + cn * 2) = (ol ++ chunkL ntRNS (rowL 16 l)).length := by rw [List.length_append, HLEN.out]; omega
    rw [hl3]
    refine HQ.out w3 g4 c4 _ _ _ _ _ _ _ _ _ _ _ _ _ _ _ _ _ _ _ _ _ _ _ _ _ hown3.out ((M2.out.mono (fun _ _ h => h.elim)).trans hm3.out) ?_
    rcases hg3.out with h | h
    · exact Or.inl h
    · exact Or.inr (by rw [h]; exact M2.out.size)
end Go.Proofs.YtnpkgmgedgcjmaaGreatDoor
