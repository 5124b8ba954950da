/-
  SEAT b6601481a: THE LAW (6), its last part.
-/
import Derived.Test.Qxb6601481aLaw0
import Derived.BigQuiet
namespace Go.Proofs.Qxb6601481a
open Go.RowKit Go.Deep
set_option linter.unusedVariables false
set_option linter.unusedSimpArgs false

set_option maxHeartbeats 4000000 in
set_option maxRecDepth 100000 in
theorem p5_E {c0 c3 c4 c5 c6 c7 c8 c9 c10 c11 c12 c15 c21 c26 c27 c29 c30 c31 c32 c33 c34 c35 c36 c37 c38 c39 c40 c41 c42 c43 c44 c45 c46 c47 c48 c49 c50 c51 c52 c53 c54 c55 c56 c57 c58 c59 c60 c61 c62 c63 c64 c65 c66 c67 c68 c69 c70 c71 c72 c73 c74 c75 c76 c77 c78 c79 c80 c81 c82 c83 c84 c85 c86 c87 c88 c89 c90 c91 c92 c93 c94 c95 c96 c97 c98 c99 c100 c101 c102 c103 c104 c105 c106 c107 c108 c109 c110 c111 c112 c113 c114 c115 c116 c117 c118 c119 c120 c121 c122 c123 c124 c125 c126 c127 c128 c129 c130 c131 c132 c133 c134 c135 c136 c137 c138 c139 c140 c141 c142 c143 c144 c145 c146 c147 c148 c149 c150 c151 c152 c153 c154 c155 c156 c157 c158 c159 c160 c161 c162 c163 c164 c165 c166 c167 c168 c169 c170 c171 c172 c173 c174 c175 c176 c177 c178 c179 c180 c181 c182 c183 c184 c185 c186 c187 c188 c189 c190 c191 c192 c193 c194 c195 c196 c197 c198 c199 c200 c201 c202 c203 c204 c205 c206 c207 c208 c209 c210 c211 c212 c213 c214 c215 c216 c217 c218 c219 c220 c221 c222 c223 c224 c225 c226 c227 c228 c229 c230 c231 c232 c233 c234 c235 c236 c237 c238 c239 c240 c241 c242 c243 c244 c245 c246 c247 c248 c249 c250 c251 c252 c253 c254 c255 c256 c257 c258 c259 c260 c261 c262 c263 c264 c265 c266 c267 c268 c269 c270 c271 c272 c273 c274 c275 c276 c277 c278 c279 c280 c281 c282 c283 c284 c285 c286 c287 c288 c289 c290 c291 c292 c293 c294 c295 c296 c297 c298 c299 c300 c301 c302 c303 c304 c305 c306 c307 c308 c309 c310 c311 c312 c313 c314 c315 c316 c317 c318 c319 c320 c321 c322 c323 c324 c325 c326 c327 c328 c329 c330 c331 c332 c333 c334 c335 c336 c337 c338 c339 c340 c341 c342 c343 c344 c345 c346 c347 c348 c349 c350 c351 c352 c353 c354 c355 c356 c357 c358 c359 c360 c361 c362 c363 c364 c365 c366 : Value} (Z RP WT SF S PR NR NA n ph : Nat) (sf cm pmax : Int) (mean pm : Nat) (f : Nat → Int) (und dis val ones rmax ms mb rs dec ps lo hi : Int) (w W : World) (K : Act → World → Prop) (hK : ∀ a w', Code.wp Try.prog (dropS 29 (Try.f6.body.getD .skip)) (Ends w) a w' → K a w') (HZ : Has W Z 44 (zcells 0 none (some ⟨PR, 0, none⟩) mean und dis val ones rmax ms mb rs dec ps)) (HR : Has W RP 42 (rcells 0 none (some ⟨PR, 0, none⟩) mean und dis val ones rmax ms mb)) (HW : Has W WT 42 (rcells 0 none none 0 und dis val ones rmax ms mb)) (hWZ : WT ≠ Z) (hWR : WT ≠ RP) (HP : Has W PR 56 (prc NR ph cm pmax pm)) (HN : W.rowIs NR 3 ph (fun i => .int .i64 (f i))) (HNA : W.rowIs NA 3 ph (fun i => .int .i64 (f i))) (hWP : WT ≠ PR) (hWN : WT ≠ NR) (hWNA : WT ≠ NA) (hph : ph ≤ 1048576) (hpm : pmax = mx 0 hi) (hnan : FloatKind.f64.format.order pm pm = none) (hB : Below w.heap.size w W) (hwW : w.heap.size ≤ WT) :
    Code.wp Try.prog (headS (dropS 28 (Try.f6.body.getD .skip))) (Exit.then K (Ends w)) ⟨#[c0, (.bool false), (.bool true), c3, c4, c5, c6, c7, c8, c9, c10, c11, c12, (.int .i64 0), (.pointer (some ⟨Z, 0, none⟩)), c15, (.pointer (some ⟨RP, 0, none⟩)), (.pointer (some ⟨WT, 0, none⟩)), (.pointer (some ⟨SF, 0, none⟩)), (.int .i64 rs), (.int .i64 dec), c21, (.int .i64 ps), (.int .i64 lo), (.int .i64 hi), (.int .i64 cm), c26, c27, (.slice (some ⟨NA, 0, none⟩) ph ph), c29, c30, c31, c32, c33, c34, c35, c36, c37, c38, c39, c40, c41, c42, c43, c44, c45, c46, c47, c48, c49, c50, c51, c52, c53, c54, c55, c56, c57, c58, c59, c60, c61, c62, c63, c64, c65, c66, c67, c68, c69, c70, c71, c72, c73, c74, c75, c76, c77, c78, c79, c80, c81, c82, c83, c84, c85, c86, c87, c88, c89, c90, c91, c92, c93, c94, c95, c96, c97, c98, c99, c100, c101, c102, c103, c104, c105, c106, c107, c108, c109, c110, c111, c112, c113, c114, c115, c116, c117, c118, c119, c120, c121, c122, c123, c124, c125, c126, c127, c128, c129, c130, c131, c132, c133, c134, c135, c136, c137, c138, c139, c140, c141, c142, c143, c144, c145, c146, c147, c148, c149, c150, c151, c152, c153, c154, c155, c156, c157, c158, c159, c160, c161, c162, c163, c164, c165, c166, c167, c168, c169, c170, c171, c172, c173, c174, c175, c176, c177, c178, c179, c180, c181, c182, c183, c184, c185, c186, c187, c188, c189, c190, c191, c192, c193, c194, c195, c196, c197, c198, c199, c200, c201, c202, c203, c204, c205, c206, c207, c208, c209, c210, c211, c212, c213, c214, c215, c216, c217, c218, c219, c220, c221, c222, c223, c224, c225, c226, c227, c228, c229, c230, c231, c232, c233, c234, c235, c236, c237, c238, c239, c240, c241, c242, c243, c244, c245, c246, c247, c248, c249, c250, c251, c252, c253, c254, c255, c256, c257, c258, c259, c260, c261, c262, c263, c264, c265, c266, c267, c268, c269, c270, c271, c272, c273, c274, c275, c276, c277, c278, c279, c280, c281, c282, c283, c284, c285, c286, c287, c288, c289, c290, c291, c292, c293, c294, c295, c296, c297, c298, c299, c300, c301, c302, c303, c304, c305, c306, c307, c308, c309, c310, c311, c312, c313, c314, c315, c316, c317, c318, c319, c320, c321, c322, c323, c324, c325, c326, c327, c328, c329, c330, c331, c332, c333, c334, c335, c336, c337, c338, c339, c340, c341, c342, c343, c344, c345, c346, c347, c348, c349, c350, c351, c352, c353, c354, c355, c356, c357, c358, c359, c360, c361, c362, c363, c364, c365, c366], []⟩ W := by
  show Code.wp Try.prog (.region _ _ _) _ _ _
  replace hK : ∀ a w', Code.wp Try.prog (.seq _ _) (Ends w) a w' → K a w' := hK
  have hstf := store_float
  have x16 := HR.cell 16 (.float .f64 mean) rfl
  have y16 := HW.cell 16 (.float .f64 0) rfl
  have z16 := HW.frozen 16
  unfold Ends at *
  go_upto_if 310 with fail
  refine gen_world (fun V => Has V Z 44 (zcells 0 none (some ⟨PR, 0, none⟩) mean und dis val ones rmax ms mb rs dec ps) ∧ Has V RP 42 (rcells 0 none (some ⟨PR, 0, none⟩) mean und dis val ones rmax ms mb) ∧ Has V WT 42 (rcells 0 none none mean und dis val ones rmax ms mb) ∧ Has V PR 56 (prc NR ph cm pmax pm) ∧ V.rowIs NR 3 ph (fun i => .int .i64 (f i)) ∧ V.rowIs NA 3 ph (fun i => .int .i64 (f i)) ∧ Below w.heap.size w V) ⟨HZ.setOther (a := ⟨WT, 16, none⟩) (fun e => hWZ e.symm) _, HR.setOther (a := ⟨WT, 16, none⟩) (fun e => hWR e.symm) _, HW.set 16 (.float .f64 mean) (rcells 0 none none mean und dis val ones rmax ms mb) rfl, HP.setOther (a := ⟨WT, 16, none⟩) (fun e => hWP e.symm) _, HN.setOther (a := ⟨WT, 16, none⟩) (fun e => hWN e.symm) _, HNA.setOther (a := ⟨WT, 16, none⟩) (fun e => hWNA e.symm) _, hB.setCell (p := ⟨WT, 16, none⟩) hwW _⟩ ?_
  clear HZ HR HW HP HN HNA hB x16 y16 z16
  rintro V ⟨HZ, HR, HW, HP, HN, HNA, hB⟩
  have e40 := eql_ptr_nil3 40 56 Try.underlying40
  have x19 := HR.cell 19 (.pointer (some ⟨PR, 0, none⟩)) rfl
  have p3 := HP.cell 3 (.float .f64 pm) rfl
  have y19 := HW.cell 19 (.pointer none) rfl
  have z19 := HW.frozen 19
  have hWV := HW.lt
  have hne : ¬ WT = V.heap.size := by omega
  have HG : Hid ((fun V' : World => Has V' Z 44 (zcells 0 none (some ⟨PR, 0, none⟩) mean und dis val ones rmax ms mb rs dec ps) ∧ Has V' RP 42 (rcells 0 none (some ⟨PR, 0, none⟩) mean und dis val ones rmax ms mb) ∧ Has V' WT 42 (rcells 0 none (some ⟨V.heap.size, 0, none⟩) mean und dis val ones rmax ms mb) ∧ Has V' PR 56 (prc NR ph cm pmax pm) ∧ V'.rowIs NR 3 ph (fun i => .int .i64 (f i)) ∧ V'.rowIs NA 3 ph (fun i => .int .i64 (f i)) ∧ Below w.heap.size w V' ∧ Has V' V.heap.size 56 (prc NA ph cm (mx 0 hi) pm)) ((V.setCell ⟨WT, 19, none⟩ (.pointer (some ⟨V.heap.size, 0, none⟩))).alloc (.cells (prc NA ph cm (mx 0 hi) pm) 56))) := hid0 ?hg
  case hg => exact ⟨(HZ.setOther (a := ⟨WT, 19, none⟩) (fun e => hWZ e.symm) _).alloc _, (HR.setOther (a := ⟨WT, 19, none⟩) (fun e => hWR e.symm) _).alloc _, (HW.set 19 _ _ rfl).alloc _, (HP.setOther (a := ⟨WT, 19, none⟩) (fun e => hWP e.symm) _).alloc _, (HN.setOther (a := ⟨WT, 19, none⟩) (fun e => hWN e.symm) _).alloc _, (HNA.setOther (a := ⟨WT, 19, none⟩) (fun e => hWNA e.symm) _).alloc _, (hB.setCell (p := ⟨WT, 19, none⟩) hwW _).alloc (by simpa using hB.size) _, has_at (by simp)⟩
  clear HZ HR HW HP HN HNA hB
  go_upto_if 322 with fail
  go_cut [] from 34 (fun wx => wx = V)
  case first =>
    go_wp2
    go_meet
    case rel => rfl
  case rest =>
  obtain rfl := hcut.symm
  go_upto_region 101 with (first | (go_at_call 22; refine (bigger_any 0 hi _).mono ?_; rintro e w' ⟨rfl, hw⟩; obtain rfl := hw.symm))
  refine gen_world (fun V' : World => Has V' Z 44 (zcells 0 none (some ⟨PR, 0, none⟩) mean und dis val ones rmax ms mb rs dec ps) ∧ Has V' RP 42 (rcells 0 none (some ⟨PR, 0, none⟩) mean und dis val ones rmax ms mb) ∧ Has V' WT 42 (rcells 0 none (some ⟨V.heap.size, 0, none⟩) mean und dis val ones rmax ms mb) ∧ Has V' PR 56 (prc NR ph cm pmax pm) ∧ V'.rowIs NR 3 ph (fun i => .int .i64 (f i)) ∧ V'.rowIs NA 3 ph (fun i => .int .i64 (f i)) ∧ Below w.heap.size w V' ∧ Has V' V.heap.size 56 (prc NA ph cm (mx 0 hi) pm)) HG.out ?_
  rintro V' ⟨HZ, HR, HW, HP, HN, HNA, hB, HQ⟩
  rw [← hpm] at HQ
  obtain ⟨RA, hRA⟩ : ∃ RA, RA = (rcells 0 none (some ⟨PR, 0, none⟩) mean und dis val ones rmax ms mb) := ⟨_, rfl⟩
  obtain ⟨RB, hRB⟩ : ∃ RB, RB = (rcells 0 none (some ⟨V.heap.size, 0, none⟩) mean und dis val ones rmax ms mb) := ⟨_, rfl⟩
  have C24 : Calls Try.prog 24 #[.agg RA, .agg RB] V' (fun e w' => e = .returned (.bool true) ∧ Below V'.heap.size V' w') := by rw [hRA, hRB]; exact eqReport_C S SF PR V.heap.size NR NA ph sf cm pmax pm f 0 mean und dis val ones rmax ms mb V' HP HQ HN HNA hph
  have la := HR.range
  have lb := HW.range
  rw [← hRA] at la
  rw [← hRB] at lb
  have s1 : (Try.prog.info? 42).map (·.size) = some RA.toList.length := by rw [hRA]; exact size42
  have s2 : (Try.prog.info? 42).map (·.size) = some RB.toList.length := by rw [hRB]; exact size42
  have HH := hid0 HZ
  have HB := hid0 hB
  clear hRA hRB HZ HR HW HP HN HNA hB
  go_upto_region 103 with (first | (refine wpList_load_mid rfl 42 (.tmp 16) rfl RP 0 rfl RA.toList _ la Try.underlying42 rfl s1 ?_; rw [Array.toArray_toList]) | (refine wpList_load_mid rfl 42 (.tmp 17) rfl WT 0 rfl RB.toList _ lb Try.underlying42 rfl s2 ?_; rw [Array.toArray_toList]) | (go_at_call 24; refine C24.mono ?_; rintro e W2 ⟨rfl, hw2⟩))
  have hz : Has W2 Z 44 _ := HH.out.of_block (hw2.block _ HH.out.lt)
  have q20 := hz.cell 20 (.int .i64 rs) rfl
  have q21 := hz.cell 21 (.int .i64 dec) rfl
  have q22 := hz.cell 22 (.int .i64 ps) rfl
  have HF := hid0 (HB.out.trans (hw2.mono HB.out.size))
  clear hz hw2 la lb C24
  go_wp2
  go_ret
  exact ⟨rfl, HF.out⟩
end Go.Proofs.Qxb6601481a
