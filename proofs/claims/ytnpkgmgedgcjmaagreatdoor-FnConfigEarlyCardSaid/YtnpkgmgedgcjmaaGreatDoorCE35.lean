/- The reference's writer of files: the function. No conditions but those in each theorem's own binders. -/
import Derived.Test.YtnpkgmgedgcjmaaGreatDoorCE34
namespace Go.Proofs.YtnpkgmgedgcjmaaGreatDoor
set_option linter.unusedVariables false
set_option linter.unusedSimpArgs false
open Go.RowKit Go.Png

/-- A file's bytes: the packed bytes' bits are told apart. -/
def fileL (s : Shp) (sm : List Nat) (pal : List Dt) (cl : List Nat) (fl : List UInt8) (bs : List Bool) (cuts ahead behind : List UInt8) : List UInt8 :=
  sigL ++ chunkL nIHDR (headL s) ++ plteL pal.length (shadesL pal) ++ trnsL (anyL pal) (clearsL pal) ++ clearC cl ++ ahead ++ idatsL cuts (packedL (bareL s sm fl) bs) ++ (behind ++ chunkL nIEND [])

set_option maxRecDepth 100000 in
theorem write_laced (w : World) (b : Bool) (u0 u1 u2 u3 u4 u5 u6 u7 u8 u9 u10 u11 u12 u13 u14 u16 u17 u18 u19 u20 u21 u22 u23 u24 u25 u26 u27 u28 u30 u31 u32 u33 u34 u35 u36 u37 u38 u39 u40 u41 u42 u43 u44 u45 u46 u47 u48 u49 u50 u51 u52 u53 u54 u55 u56 u57 u58 u59 u60 u61 u62 u63 u64 u65 u66 u67 u68 u69 u70 u71 u72 u73 u74 u75 u76 u77 u78 u79 u80 u81 u82 u83 u84 u85 u86 u87 u88 u89 u90 u91 u92 u93 u94 u95 u96 u97 u98 u99 u100 u101 u102 u103 u104 u105 u106 u107 u108 u109 u110 u111 u112 u113 u114 u115 u116 u117 u118 u119 u120 u121 u122 u123 u124 u125 u126 u127 u128 u129 u130 u131 u132 u133 u134 u135 u136 u137 u138 u139 u140 u141 u142 u143 u144 u145 u146 u147 u148 u149 u150 u151 u152 u153 u154 u155 u156 u157 u158 u159 u160 u161 u162 u163 u164 u165 u166 u167 u168 u169 u170 : Value) (Q : Exit → Act → World → Prop)
    (hQ : Q .normal ⟨#[u0, u1, u2, u3, u4, u5, u6, u7, u8, u9, u10, u11, u12, u13, u14, .int .u8 (lacedN b : Nat), u16, u17, u18, u19, u20, u21, u22, u23, u24, u25, u26, u27, u28, .bool b, u30, u31, u32, u33, u34, u35, u36, u37, u38, u39, u40, u41, u42, u43, u44, u45, u46, u47, u48, u49, u50, u51, u52, u53, u54, u55, u56, u57, u58, u59, u60, u61, u62, u63, u64, u65, u66, u67, u68, u69, u70, u71, u72, u73, u74, u75, u76, u77, u78, u79, u80, u81, u82, u83, u84, u85, u86, u87, u88, u89, u90, u91, u92, u93, u94, u95, u96, u97, u98, u99, u100, u101, u102, u103, u104, u105, u106, u107, u108, u109, u110, u111, u112, u113, u114, u115, u116, u117, u118, u119, u120, u121, u122, u123, u124, u125, u126, u127, u128, u129, u130, u131, u132, u133, u134, u135, u136, u137, u138, u139, u140, u141, u142, u143, u144, u145, u146, u147, u148, u149, u150, u151, u152, u153, u154, u155, u156, u157, u158, u159, u160, u161, u162, u163, u164, u165, u166, u167, u168, u169, u170], []⟩ w) :
    Code.wp Tryz.prog (navc [1, 1, 0, 1] (textOf Tryz.f40)) Q ⟨#[u0, u1, u2, u3, u4, u5, u6, u7, u8, u9, u10, u11, u12, u13, u14, .int .u8 0, u16, u17, u18, u19, u20, u21, u22, u23, u24, u25, u26, u27, u28, .bool b, u30, u31, u32, u33, u34, u35, u36, u37, u38, u39, u40, u41, u42, u43, u44, u45, u46, u47, u48, u49, u50, u51, u52, u53, u54, u55, u56, u57, u58, u59, u60, u61, u62, u63, u64, u65, u66, u67, u68, u69, u70, u71, u72, u73, u74, u75, u76, u77, u78, u79, u80, u81, u82, u83, u84, u85, u86, u87, u88, u89, u90, u91, u92, u93, u94, u95, u96, u97, u98, u99, u100, u101, u102, u103, u104, u105, u106, u107, u108, u109, u110, u111, u112, u113, u114, u115, u116, u117, u118, u119, u120, u121, u122, u123, u124, u125, u126, u127, u128, u129, u130, u131, u132, u133, u134, u135, u136, u137, u138, u139, u140, u141, u142, u143, u144, u145, u146, u147, u148, u149, u150, u151, u152, u153, u154, u155, u156, u157, u158, u159, u160, u161, u162, u163, u164, u165, u166, u167, u168, u169, u170], []⟩ w := by
  conv => arg 2; whnf
  dsimp only
  have HQ := Lib.hid hQ
  clear hQ
  cases b
  · go_wp2
    exact HQ.out
  · go_wp2
    exact HQ.out

theorem shadesL_nil (l : List Dt) (n : Nat) (h : l.length = n) : (shadesL l).length = 3 * n := by rw [shadesL_length, h]

set_option maxRecDepth 100000 in
set_option maxHeartbeats 4000000 in
theorem specWrite (w : World) (s : Shp) (sa pa la fa ca ha ba : Option Addr) (sn sc pn pc ln lc fn fc cn cc hn hc bn bc sz ways : Nat) (sm cl : List Nat) (pal : List Dt) (fl cuts ahead behind : List UInt8)
    (hsm : sm.length = sn) (hsc : sn ≤ sc) (hsb : ∀ x ∈ sm, x < 65536) (hS : SlI w sa sm) (hln : sm.length = s.wide * s.high * chanN s.colour)
    (hpal : pal.length = pn) (hpok : ∀ d ∈ pal, d.Ok) (hP : SlD w pa pal) (hpn : pn ≤ 1000) (hcl : cl.length = ln) (hclb : ∀ x ∈ cl, x < 65536) (hC : SlI w la cl) (hln2 : ln ≤ 1000)
    (hfl : fl.length = fn) (hF : SlB w fa fl) (hfn : fn ≤ 4294967296) (hcu : cuts.length = cn) (hU : SlB w ca cuts) (hcn : cn ≤ 1000) (hah : ahead.length = hn) (hA : SlB w ha ahead) (hA0 : hn = 0 → (ha = none ∧ hc = 0) ∨ ∃ b o, ha = some ⟨b, o, none⟩) (hhn : hn ≤ 1000000)
    (hbe : behind.length = bn) (hB : SlB w ba behind) (hB0 : bn = 0 → (ba = none ∧ bc = 0) ∨ ∃ b o, ba = some ⟨b, o, none⟩) (hbn : bn ≤ 1000000)
    (hw1 : 1 ≤ s.wide) (hh1 : 1 ≤ s.high) (hwide : s.wide ≤ 40) (hhigh : s.high ≤ 40) (hco : ColOk s.colour) (hd : DepOk s.depth) (hsz : sz ≤ 65535) (hways : ways ≤ 255) :
    Calls Tryz.prog 40 #[s.val, .slice sa sn sc, .slice pa pn pc, .slice la ln lc, .agg #[.slice fa fn fc, .int .i64 sz, .int .i64 ways, .slice ca cn cc], .slice ha hn hc, .slice ba bn bc] w
      fun e w' => ∃ g c bs, e = .returned (.slice (some ⟨g, 0, none⟩) (fileL s sm pal cl fl bs cuts ahead behind).length c) ∧ Blks (bareL s sm fl) (bareL s sm fl).length bs true ∧ bs.length ≤ 132 * (bareL s sm fl).length ∧ Own8 w' w.heap.size g c (fileL s sm pal cl fl bs cuts ahead behind) ∧ Mod (fun _ => False) w w' := by
  have hd16 : s.depth ≤ 16 := by rcases hd with h | h | h | h | h <;> omega
  have hc6 : s.colour ≤ 6 := by rcases hco with h | h | h | h | h <;> omega
  have hs0 : ShpAt (w.alloc (.cells #[.int .i64 s.wide, .int .i64 s.high, .int .i64 s.depth, .int .i64 s.colour, .bool s.laced] 26)) w.heap.size s := ⟨by rw [World.cell?_alloc_new]; rfl, by rw [World.cell?_alloc_new]; rfl, by rw [World.cell?_alloc_new]; rfl, by rw [World.cell?_alloc_new]; rfl, by rw [World.cell?_alloc_new]; rfl⟩
  have hkeep : ∀ w', Mod (fun k => w.heap.size ≤ k) w w' → SlI w' sa sm ∧ SlD w' pa pal ∧ SlI w' la cl ∧ SlB w' fa fl ∧ SlB w' ca cuts ∧ SlB w' ha ahead ∧ SlB w' ba behind := fun w' m =>
    ⟨hS.mod m (fun k hk h => by omega), hP.mod m (fun k hk h => by omega), hC.mod m (fun k hk h => by omega), hF.mod m (fun k hk h => by omega), hU.mod m (fun k hk h => by omega), hA.mod m (fun k hk h => by omega), hB.mod m (fun k hk h => by omega)⟩
  have hb0 : BldAt ((w.alloc (.cells #[.int .i64 s.wide, .int .i64 s.high, .int .i64 s.depth, .int .i64 s.colour, .bool s.laced] 26)).alloc (.cells #[.slice fa fn fc, .int .i64 sz, .int .i64 ways, .slice ca cn cc] 81)) (w.heap.size + 1) fa fn fc sz ways ca cn cc := by
    have e : (w.alloc (.cells #[.int .i64 s.wide, .int .i64 s.high, .int .i64 s.depth, .int .i64 s.colour, .bool s.laced] 26)).heap.size = w.heap.size + 1 := by simp
    rw [← e]
    exact ⟨by rw [World.cell?_alloc_new]; rfl, by rw [World.cell?_alloc_new]; rfl, by rw [World.cell?_alloc_new]; rfl, by rw [World.cell?_alloc_new]; rfl⟩
  have hs1 := hs0.mod ((Mod.refl (fun _ => False) _).alloc (.cells #[.slice fa fn fc, .int .i64 sz, .int .i64 ways, .slice ca cn cc] 81)) id
  have m1 : Mod (fun _ => False) w ((w.alloc (.cells #[.int .i64 s.wide, .int .i64 s.high, .int .i64 s.depth, .int .i64 s.colour, .bool s.laced] 26)).alloc (.cells #[.slice fa fn fc, .int .i64 sz, .int .i64 ways, .slice ca cn cc] 81)) := ((Mod.refl _ w).alloc _).alloc _
  have hz1 : ((w.alloc (.cells #[.int .i64 s.wide, .int .i64 s.high, .int .i64 s.depth, .int .i64 s.colour, .bool s.laced] 26)).alloc (.cells #[.slice fa fn fc, .int .i64 sz, .int .i64 ways, .slice ca cn cc] 81)).heap.size = w.heap.size + 2 := by simp
  have KEEP := Lib.hid hkeep; have SH1 := Lib.hid hs1; have BL1 := Lib.hid hb0; have M1 := Lib.hid m1; have Z1 := Lib.hid hz1; have HSM := Lib.hid hsm; have HSB := Lib.hid hsb; have HLN := Lib.hid hln; have HPAL := Lib.hid hpal; have HPOK := Lib.hid hpok; have HCL := Lib.hid hcl; have HCLB := Lib.hid hclb; have HFL := Lib.hid hfl; have HCU := Lib.hid hcu; have HAH := Lib.hid hah; have HBE := Lib.hid hbe; have HA0 := Lib.hid hA0; have HB0 := Lib.hid hB0; have HCO := Lib.hid hco; have HD := Lib.hid hd
  clear hkeep hs0 hs1 hb0 m1 hz1 hsm hsb hln hpal hpok hcl hclb hfl hcu hah hbe hA0 hB0 hco hd hS hP hC hF hU hA hB
  unfold Shp.val
  go_enter Tryz.func40, Tryz.ntmps40
  go_upto_if 29 with fail
  rename_i K hK
  generalize (w.alloc (.cells #[.int .i64 s.wide, .int .i64 s.high, .int .i64 s.depth, .int .i64 s.colour, .bool s.laced] 26)).alloc (.cells #[.slice fa fn fc, .int .i64 sz, .int .i64 ways, .slice ca cn cc] 81) = w1 at *
  refine write_laced w1 s.laced _ _ _ _ _ _ _ _ _ _ _ _ _ _ _ _ _ _ _ _ _ _ _ _ _ _ _ _ _ _ _ _ _ _ _ _ _ _ _ _ _ _ _ _ _ _ _ _ _ _ _ _ _ _ _ _ _ _ _ _ _ _ _ _ _ _ _ _ _ _ _ _ _ _ _ _ _ _ _ _ _ _ _ _ _ _ _ _ _ _ _ _ _ _ _ _ _ _ _ _ _ _ _ _ _ _ _ _ _ _ _ _ _ _ _ _ _ _ _ _ _ _ _ _ _ _ _ _ _ _ _ _ _ _ _ _ _ _ _ _ _ _ _ _ _ _ _ _ _ _ _ _ _ _ _ _ _ _ _ _ _ _ _ _ _ _ _ _ _ _ ?_
  change K _ _
  refine hK _ _ ?_
  clear hK K
  refine wp_seq_k (fun K hK => ?_)
  refine write_head w1 (w.heap.size + 2) s w.heap.size (by rw [Z1.out]; omega) SH1.out hwide hhigh hd16 hc6 _ _ _ _ _ _ _ _ _ _ _ _ _ _ _ _ _ _ _ _ _ _ _ _ _ _ _ _ _ _ _ _ _ _ _ _ _ _ _ _ _ _ _ _ _ _ _ _ _ _ _ _ _ _ _ _ _ _ _ _ _ _ _ _ _ _ _ _ _ _ _ _ _ _ _ _ _ _ _ _ _ _ _ _ _ _ _ _ _ _ _ _ _ _ _ _ _ _ _ _ _ _ _ _ _ _ _ _ _ _ _ _ _ _ _ _ _ _ _ _ _ _ _ _ _ _ _ _ _ _ _ _ _ _ _ _ _ _ _ _ _ _ _ _ _ _ _ _ _ _ _ _ _ _ _ _ _ _ _ _ _ _ _ _ _ _ _ _ _ _ ?_
  intro w2 g2 c2 _ _ _ _ _ _ _ _ _ _ _ _ _ _ _ _ _ _ own2 m2
  change K _ _
  refine hK _ _ ?_
  clear hK K
  have O2 := Lib.hid own2; have M2 := Lib.hid (M1.out.trans m2); have SH2 := Lib.hid (SH1.out.mod m2 id); have BL2 := Lib.hid (BL1.out.mod m2 id); have M12 := Lib.hid m2
  clear own2 m2 SH1 BL1
  have hsig := specSignature w2
  have HSIG := Lib.hid hsig
  clear hsig
  go_wp2_with (fail)
  refine HSIG.out.mono ?_
  rintro e w3 ⟨g3, rfl, own3, m3⟩
  have hlh : (headL s).length = 13 := rfl
  have hch := specChunk w3 nIHDR (headL s) (some ⟨g2, 0, none⟩) 13 c2 rfl hlh (O2.out.mod m3 id).slb (fun h => by omega) (by omega)
  have O3 := Lib.hid (own3.mono (base' := w.heap.size + 2) (by have := M12.out.size; rw [Z1.out] at this; omega)); have M3 := Lib.hid (M2.out.trans m3); have SH3 := Lib.hid (SH2.out.mod m3 id); have BL3 := Lib.hid (BL2.out.mod m3 id); have M13 := Lib.hid (M12.out.trans m3); have HCH := Lib.hid hch
  clear own3 m3 SH2 BL2 hch M12 M2 HSIG O2
  go_wp2_with (fail)
  refine HCH.out.mono ?_
  rintro e w4 ⟨g4, c4, rfl, own4, m4⟩
  have O4 := Lib.hid own4; have M4 := Lib.hid (M3.out.trans m4); have SH4 := Lib.hid (SH3.out.mod m4 id); have BL4 := Lib.hid (BL3.out.mod m4 id); have M14 := Lib.hid (M13.out.trans m4); have O34 := Lib.hid (O3.out.mod m4 id)
  have hs4 : w.heap.size + 2 ≤ w4.heap.size := by have := M14.out.size; rw [Z1.out] at this; omega
  clear own4 m4 SH3 BL3 M13 M3 HCH O3
  go_upto_region 6 with (at_builtin; go_must (refine wpList_app8 rfl (.tmp 48) (.tmp 50) rfl (w.heap.size + 2) g3 8 8 sigL rfl rfl O34.out (some ⟨g4, 0, none⟩) (12 + 13) c4 (chunkL nIHDR (headL s)) (by rw [chunkL_length _ _ rfl]; rfl) O4.out.slb rfl (fun h => by omega) (by omega) hs4 ?_; intro g5 c5 w5 hown5 hm5 hg5))
  have hb3 := O34.out.base
  have M5 := Lib.hid (M4.out.then hm5.out (fun k hk h => by omega))
  have SH5 := Lib.hid (SH4.out.mod hm5.out (by omega)); have BL5 := Lib.hid (BL4.out.mod hm5.out (by omega)); have M15 := Lib.hid (M14.out.then hm5.out (fun k hk h => by have := Z1.out; omega))
  have hs5 : w.heap.size + 2 ≤ w5.heap.size := by have := M15.out.size; rw [Z1.out] at this; omega
  have O5 := Lib.hid hown5.out
  clear hown5 hm5 hg5 SH4 BL4 M14 M4 O34 O4 hb3
  go_upto_block 0 with fail
  rename_i K hK
  have hz6 : (w5.alloc (.cells #[] 5)).heap.size = w5.heap.size + 1 := by simp
  have hn1 : Own8 ((w5.alloc (.cells #[] 5)).alloc (.cells #[] 5)) (w.heap.size + 2) w5.heap.size 0 [] := (Own8.new w5 _ hs5).mod ((Mod.refl (fun _ => False) _).alloc _) id
  have hn2 : Own8 ((w5.alloc (.cells #[] 5)).alloc (.cells #[] 5)) (w.heap.size + 2) (w5.heap.size + 1) 0 [] := by
    rw [← hz6]; exact Own8.new _ _ (by rw [hz6]; omega)
  have m6 : Mod (fun _ => False) w5 ((w5.alloc (.cells #[] 5)).alloc (.cells #[] 5)) := ((Mod.refl _ w5).alloc _).alloc _
  have hb5 := O5.out.base
  have hz7 : ((w5.alloc (.cells #[] 5)).alloc (.cells #[] 5)).heap.size = w5.heap.size + 2 := by simp
  have N1 := Lib.hid hn1; have N2 := Lib.hid hn2; have M6 := Lib.hid m6; have Z7 := Lib.hid hz7
  clear hz6 hn1 hn2 m6 hz7
  generalize (w5.alloc (.cells #[] 5)).alloc (.cells #[] 5) = w6 at *
  have hs6 : w.heap.size + 2 ≤ w6.heap.size := by have := Z7.out; omega
  have M56 := Lib.hid (M5.out.trans M6.out)
  refine write_pal w6 (w.heap.size + 2) pa pn pc w5.heap.size (w5.heap.size + 1) pal hs6 N1.out N2.out (by omega) HPAL.out HPOK.out (fun w' m => (KEEP.out w' ((M56.out.mono (fun _ _ h => h.elim)).trans (m.mono (fun k _ hk => by omega)))).2.1) (by omega) _ _ _ _ _ _ _ _ _ _ _ _ _ _ _ _ _ _ _ _ _ _ _ _ _ _ _ _ _ _ _ _ _ _ _ _ _ _ _ _ _ _ _ _ _ _ _ _ _ _ _ _ _ _ _ _ _ _ _ _ _ _ _ _ _ _ _ _ _ _ _ _ _ _ _ _ _ _ _ _ _ _ _ _ _ _ _ _ _ _ _ _ _ _ _ _ _ _ _ _ _ _ _ _ _ _ _ _ _ _ _ _ _ _ _ _ _ _ _ _ _ _ _ _ _ _ _ _ _ _ _ _ _ _ _ _ _ _ _ _ _ _ _ _ _ _ _ _ _ _ _ _ _ _ _ _ _ _ _ _ _ _ _ _ _ ?_
  intro w7 x1 cx1 x2 cx2 _ _ _ _ _ _ _ _ _ _ _ _ _ _ _ _ _ _ _ _ _ _ _ _ _ _ _ _ _ _ _ _ _ own1 own2 hx12 hx1 hx2 m7
  change K _ _
  refine hK _ _ ?_
  clear hK K
  have hz := Z7.out
  have M7 := Lib.hid (M56.out.then m7 (fun k hk h => by omega)); have SH7 := Lib.hid ((SH5.out.mod M6.out id).mod m7 (by omega)); have BL7 := Lib.hid ((BL5.out.mod M6.out id).mod m7 (by omega)); have O7 := Lib.hid ((O5.out.mod M6.out id).mod m7 (by omega))
  have hs7 : w.heap.size + 2 ≤ w7.heap.size := by have := m7.size; omega
  have hl7 : (sigL ++ chunkL nIHDR (headL s)).length = 33 := by rw [List.length_append, chunkL_length _ _ rfl]; rfl
  have X1 := Lib.hid own1; have X2 := Lib.hid own2
  have hx1g : x1 ≠ g5 := by omega
  have hx2g : x2 ≠ g5 := by omega
  clear own1 own2 m7 N1 N2 M6 Z7 SH5 BL5 M15 O5 M56 hz hx1 hx2
  refine wp_seq_k (fun K hK => ?_)
  refine write_plte w7 (w.heap.size + 2) pa pn pc g5 33 c5 x1 cx1 _ (shadesL pal) hs7 O7.out hl7 (shadesL_nil pal pn HPAL.out) X1.out.slb (by omega) (by omega) _ _ _ _ _ _ _ _ _ _ _ _ _ _ _ _ _ _ _ _ _ _ _ _ _ _ _ _ _ _ _ _ _ _ _ _ _ _ _ _ _ _ _ _ _ _ _ _ _ _ _ _ _ _ _ _ _ _ _ _ _ _ _ _ _ _ _ _ _ _ _ _ _ _ _ _ _ _ _ _ _ _ _ _ _ _ _ _ _ _ _ _ _ _ _ _ _ _ _ _ _ _ _ _ _ _ _ _ _ _ _ _ _ _ _ _ _ _ _ _ _ _ _ _ _ _ _ _ _ _ _ _ _ _ _ _ _ _ _ _ _ _ _ _ _ _ _ _ _ _ _ _ _ _ _ _ _ _ _ _ _ _ _ _ _ _ _ _ _ ?_
  intro w8 g8 c8 _ _ _ _ _ _ _ own8 m8 hg8
  change K _ _
  refine hK _ _ ?_
  clear hK K
  have hx2b := X2.out.base
  have M8 := Lib.hid (M7.out.then m8 (fun k hk h => by omega)); have SH8 := Lib.hid (SH7.out.mod m8 (by omega)); have BL8 := Lib.hid (BL7.out.mod m8 (by omega)); have O8 := Lib.hid own8; have X28 := Lib.hid (X2.out.mod m8 hx2g)
  have hs8 : w.heap.size + 2 ≤ w8.heap.size := by have := m8.size; omega
  have hx2g8 : x2 ≠ g8 := by omega
  have hl8 : (sigL ++ chunkL nIHDR (headL s) ++ plteL pn (shadesL pal)).length ≤ 10000 := by
    rw [List.length_append, hl7]
    unfold plteL; split
    · simp
    · rw [chunkL_length _ _ rfl, shadesL_nil pal pn HPAL.out]; omega
  clear own8 m8 M7 SH7 BL7 O7 X1 X2 hg8 hx1g hx2g hx2b hl7
  generalize hol8 : sigL ++ chunkL nIHDR (headL s) ++ plteL pn (shadesL pal) = ol8 at *
  refine wp_seq_k (fun K hK => ?_)
  refine write_trns w8 (w.heap.size + 2) pn g8 ol8.length c8 x2 cx2 (anyL pal) ol8 (clearsL pal) hs8 O8.out rfl (by rw [clearsL_length]; exact HPAL.out) X28.out.slb (by omega) (by omega) _ _ _ _ _ _ _ _ _ _ _ _ _ _ _ _ _ _ _ _ _ _ _ _ _ _ _ _ _ _ _ _ _ _ _ _ _ _ _ _ _ _ _ _ _ _ _ _ _ _ _ _ _ _ _ _ _ _ _ _ _ _ _ _ _ _ _ _ _ _ _ _ _ _ _ _ _ _ _ _ _ _ _ _ _ _ _ _ _ _ _ _ _ _ _ _ _ _ _ _ _ _ _ _ _ _ _ _ _ _ _ _ _ _ _ _ _ _ _ _ _ _ _ _ _ _ _ _ _ _ _ _ _ _ _ _ _ _ _ _ _ _ _ _ _ _ _ _ _ _ _ _ _ _ _ _ _ _ _ _ _ _ _ _ _ _ _ _ _ ?_
  intro w9 g9 c9 _ _ _ _ _ own9 m9 hg9
  change K _ _
  refine hK _ _ ?_
  clear hK K
  have hb8 := O8.out.base
  have M9 := Lib.hid (M8.out.then m9 (fun k hk h => by omega)); have SH9 := Lib.hid (SH8.out.mod m9 (by omega)); have BL9 := Lib.hid (BL8.out.mod m9 (by omega)); have O9 := Lib.hid own9
  have hs9 : w.heap.size + 2 ≤ w9.heap.size := by have := m9.size; omega
  have hl9 : (ol8 ++ trnsL (anyL pal) (clearsL pal)).length ≤ 20000 := by
    rw [List.length_append]
    unfold trnsL; split
    · rw [chunkL_length _ _ rfl, clearsL_length, HPAL.out]; omega
    · simp; omega
  clear own9 m9 M8 SH8 BL8 O8 X28 hg9 hx2g8 hb8
  generalize hol9 : ol8 ++ trnsL (anyL pal) (clearsL pal) = ol9 at *
  refine wp_seq_k (fun K hK => ?_)
  refine write_clear w9 (w.heap.size + 2) la ln lc g9 ol9.length c9 cl ol9 _ hs9 O9.out rfl HCL.out (fun w' m => (KEEP.out w' ((M9.out.mono (fun _ _ h => h.elim)).trans (m.mono (fun k _ hk => by omega)))).2.2.1) HCLB.out (by omega) (by omega) _ _ _ _ _ _ _ _ _ _ _ _ _ _ _ _ _ _ _ _ _ _ _ _ _ _ _ _ _ _ _ _ _ _ _ _ _ _ _ _ _ _ _ _ _ _ _ _ _ _ _ _ _ _ _ _ _ _ _ _ _ _ _ _ _ _ _ _ _ _ _ _ _ _ _ _ _ _ _ _ _ _ _ _ _ _ _ _ _ _ _ _ _ _ _ _ _ _ _ _ _ _ _ _ _ _ _ _ _ _ _ _ _ _ _ _ _ _ _ _ _ _ _ _ _ _ _ _ _ _ _ _ _ _ _ _ _ _ _ _ _ _ _ _ _ _ _ _ _ _ _ _ _ _ _ _ _ _ _ _ _ _ _ _ _ _ _ _ _ ?_
  intro w10 g10 c10 _ _ _ _ _ _ _ _ _ _ _ _ _ _ _ _ _ _ _ _ _ _ _ _ _ own10 m10 hg10
  change K _ _
  refine hK _ _ ?_
  clear hK K
  have hb9 := O9.out.base
  have M10 := Lib.hid (M9.out.then m10 (fun k hk h => by omega)); have SH10 := Lib.hid (SH9.out.mod m10 (by omega)); have BL10 := Lib.hid (BL9.out.mod m10 (by omega)); have O10 := Lib.hid own10
  have hs10 : w.heap.size + 2 ≤ w10.heap.size := by have := m10.size; omega
  have hl10 : (ol9 ++ clearC cl).length ≤ 30000 := by
    rw [List.length_append]
    unfold clearC; split
    · simp; omega
    · have h1 : (rowL 16 cl).length = 2 * ln := by unfold rowL; rw [rowP_length 16 (by unfold DepOk; omega), HCL.out]; omega
      rw [chunkL_length _ _ rfl, h1]; omega
  clear own10 m10 M9 SH9 BL9 O9 hg10 hb9 hs9
  generalize hol10 : ol9 ++ clearC cl = ol10 at *
  have hah := (KEEP.out w10 (M10.out.mono (fun _ _ h => h.elim))).2.2.2.2.2.1
  have HAHS := Lib.hid hah
  clear hah
  go_upto_region 27 with (at_builtin; go_must (refine wpList_app8 rfl (.tmp 124) (.tmp 125) rfl (w.heap.size + 2) g10 ol10.length c10 ol10 rfl rfl O10.out ha hn hc ahead HAH.out HAHS.out rfl HA0.out (by omega) hs10 ?_; intro g11 c11 w11 hown11 hm11 hg11))
  rename_i K hK
  have hb10 := O10.out.base
  have hl11 : ol10.length + hn = (ol10 ++ ahead).length := by rw [List.length_append, HAH.out]
  rw [hl11]
  have hl12 : (ol10 ++ ahead).length ≤ 1040000 := by rw [← hl11]; omega
  have M11 := Lib.hid (M10.out.then hm11.out (fun k hk h => by omega)); have SH11 := Lib.hid (SH10.out.mod hm11.out (by omega)); have BL11 := Lib.hid (BL10.out.mod hm11.out (by omega)); have O11 := Lib.hid hown11.out
  have hs11 : w.heap.size + 2 ≤ w11.heap.size := by have := hm11.out.size; omega
  clear hown11 hm11 hg11 M10 SH10 BL10 O10 HAHS hl11 hb10
  generalize hol11 : ol10 ++ ahead = ol11 at *
  have hkk := KEEP.out w11 (M11.out.mono (fun _ _ h => h.elim))
  refine write_pack w11 s w.heap.size (w.heap.size + 1) sa fa ca sn sc fn fc cn cc sz ways sm fl SH11.out BL11.out HSM.out hsc HSB.out HFL.out hkk.1 hkk.2.2.2.1 HLN.out hw1 hh1 hwide hhigh HCO.out HD.out hfn hsz hways _ _ _ _ _ _ _ _ _ _ _ _ _ _ _ _ _ _ _ _ _ _ _ _ _ _ _ _ _ _ _ _ _ _ _ _ _ _ _ _ _ _ _ _ _ _ _ _ _ _ _ _ _ _ _ _ _ _ _ _ _ _ _ _ _ _ _ _ _ _ _ _ _ _ _ _ _ _ _ _ _ _ _ _ _ _ _ _ _ _ _ _ _ _ _ _ _ _ _ _ _ _ _ _ _ _ _ _ _ _ _ _ _ _ _ _ _ _ _ _ _ _ _ _ _ _ _ _ _ _ _ _ _ _ _ _ _ _ _ _ _ _ _ _ _ _ _ _ _ _ _ _ _ _ _ _ _ _ _ _ _ _ _ _ _ _ _ _ _ ?_
  intro w12 gd cd bs _ _ _ _ _ _ _ _ _ _ hblk hbsl own12 m12
  change K _ _
  refine hK _ _ ?_
  clear hK K
  have hble := bareL_le s sm fl HD.out hwide hhigh HLN.out
  have hpl : (packedL (bareL s sm fl) bs).length ≤ 20000000 := by
    unfold packedL
    rw [List.length_append, List.length_append, packL_length, four_length]
    have : ([120, 1] : List UInt8).length = 2 := rfl
    omega
  have HBK := Lib.hid hblk; have HBSL := Lib.hid hbsl
  have M12 := Lib.hid (M11.out.trans m12); have BL12 := Lib.hid (BL11.out.mod m12 id); have O12 := Lib.hid (O11.out.mod m12 id); have D12 := Lib.hid (own12.mono hs11)
  have hs12 : w.heap.size + 2 ≤ w12.heap.size := by have := m12.size; omega
  have hgd : gd ≠ g11 := by have := own12.base; have := O11.out.base; omega
  have hbg : w.heap.size + 1 ≠ g11 := by have := O11.out.base; omega
  clear hkk hblk hbsl own12 m12 M11 SH11 BL11 O11 hble
  generalize hdata : packedL (bareL s sm fl) bs = data at *
  have HDATA := Lib.hid hdata; have HOL8 := Lib.hid hol8; have HOL9 := Lib.hid hol9; have HOL10 := Lib.hid hol10; have HOL11 := Lib.hid hol11
  clear hdata hol8 hol9 hol10 hol11
  go_upto_block 4 with fail
  rename_i K hK
  refine idat_loop w12 (w.heap.size + 2) (w.heap.size + 1) gd cd g11 c11 fa fn fc sz ways ca cn cc ol11 data cuts hs12 O12.out D12.out hgd BL12.out hbg HCU.out (fun w' m => (KEEP.out w' ((M12.out.mono (fun _ _ h => h.elim)).then m (fun k hk h => by have := O12.out.base; omega))).2.2.2.2.1) (by omega) (by omega) hcn _ _ _ _ _ _ _ _ _ _ _ _ _ _ _ _ _ _ _ _ _ _ _ _ _ _ _ _ _ _ _ _ _ _ _ _ _ _ _ _ _ _ _ _ _ _ _ _ _ _ _ _ _ _ _ _ _ _ _ _ _ _ _ _ _ _ _ _ _ _ _ _ _ _ _ _ _ _ _ _ _ _ _ _ _ _ _ _ _ _ _ _ _ _ _ _ _ _ _ _ _ _ _ _ _ _ _ _ _ _ _ _ _ _ _ _ _ _ _ _ _ _ _ _ _ _ _ _ _ _ _ _ _ _ _ _ _ _ _ _ _ _ _ _ _ _ _ _ _ _ _ _ _ _ _ _ _ _ _ _ _ _ _ _ _ _ _ _ ?_
  intro w13 g13 c13 _ _ _ _ _ _ _ _ _ _ _ _ _ _ _ _ _ _ _ _ _ _ _ _ _ _ _ _ _ _ _ _ own13 m13 hg13
  change K _ _
  refine hK _ _ ?_
  clear hK K
  have hb12 := O12.out.base
  have M13 := Lib.hid (M12.out.then m13 (fun k hk h => by omega)); have O13 := Lib.hid own13
  have hs13 : w.heap.size + 2 ≤ w13.heap.size := by have := m13.size; omega
  have hil := idatsL_length cuts data
  have hl13 : (ol11 ++ idatsL cuts data).length ≤ 30000000 := by rw [List.length_append]; have := HCU.out; omega
  clear own13 m13 M12 BL12 O12 D12 hg13 hb12 hil
  generalize hol13 : ol11 ++ idatsL cuts data = ol13 at *
  have HOL13 := Lib.hid hol13
  clear hol13
  have HBHS := Lib.hid (KEEP.out w13 (M13.out.mono (fun _ _ h => h.elim))).2.2.2.2.2.2
  have hie := fun wz => specChunk wz nIEND [] none 0 0 rfl rfl (Or.inl rfl) (fun _ => Or.inl ⟨rfl, rfl⟩) (by decide)
  have HIE := Lib.hid hie
  clear hie
  go_wp2_with (at_builtin; go_must (refine wpList_app8 rfl (.tmp 166) (.tmp 167) rfl (w.heap.size + 2) g13 ol13.length c13 ol13 rfl rfl O13.out ba bn bc behind HBE.out HBHS.out rfl HB0.out (by omega) hs13 ?_; intro g14 c14 w14 hown14 hm14 hg14))
  refine (HIE.out _).mono ?_
  rintro e w15 ⟨g15, c15, rfl, own15, m15⟩
  have hb13 := O13.out.base
  have O14 := Lib.hid (hown14.out.mod m15 id); have M15 := Lib.hid ((M13.out.then hm14.out (fun k hk h => by omega)).trans m15); have O15 := Lib.hid own15
  have hs15 : w.heap.size + 2 ≤ w15.heap.size := by have := m15.size; have := hm14.out.size; omega
  have hl14 : ol13.length + bn = (ol13 ++ behind).length := by rw [List.length_append, HBE.out]
  rw [hl14]
  have hl15 : (ol13 ++ behind).length ≤ 40000000 := by rw [← hl14]; omega
  clear hown14 hm14 m15 own15 HBHS HIE hg14 hl14
  generalize hol14 : ol13 ++ behind = ol14 at *
  have HOL14 := Lib.hid hol14
  clear hol14
  go_wp2_with (at_builtin; go_must (refine wpList_app8 rfl (.tmp 168) (.tmp 169) rfl (w.heap.size + 2) g14 ol14.length c14 ol14 rfl rfl O14.out (some ⟨g15, 0, none⟩) (12 + 0) c15 (chunkL nIEND []) (by rw [chunkL_length _ _ rfl]; rfl) O15.out.slb rfl (fun h => by omega) (by omega) hs15 ?_; intro g16 c16 w16 hown16 hm16 hg16))
  have hb14 := O14.out.base
  have hfile : fileL s sm pal cl fl bs cuts ahead behind = ol14 ++ chunkL nIEND [] := by
    unfold fileL
    rw [HPAL.out, HOL8.out, HOL9.out, HOL10.out, HOL11.out, HDATA.out, HOL13.out, ← List.append_assoc, HOL14.out]
  have hfl : (fileL s sm pal cl fl bs cuts ahead behind).length = ol14.length + 12 := by rw [hfile, List.length_append, chunkL_length _ _ rfl]; rfl
  have hown := hown16.out
  rw [← hfile] at hown
  have HFIN : Hid (∃ g c bs', (Ending.returned (.slice (some ⟨g16, 0, none⟩) (ol14.length + 12) c16) : Ending) = .returned (.slice (some ⟨g, 0, none⟩) (fileL s sm pal cl fl bs' cuts ahead behind).length c) ∧ Blks (bareL s sm fl) (bareL s sm fl).length bs' true ∧ bs'.length ≤ 132 * (bareL s sm fl).length ∧ Own8 w16 w.heap.size g c (fileL s sm pal cl fl bs' cuts ahead behind) ∧ Mod (fun _ => False) w w16) :=
    Lib.hid ⟨g16, c16, bs, by rw [hfl], HBK.out, HBSL.out, hown.mono (by omega), M15.out.then hm16.out (fun k hk h => by omega)⟩
  clear hfile hfl hown hown16 hm16 hg16
  go_ret
  exact HFIN.out
end Go.Proofs.YtnpkgmgedgcjmaaGreatDoor
