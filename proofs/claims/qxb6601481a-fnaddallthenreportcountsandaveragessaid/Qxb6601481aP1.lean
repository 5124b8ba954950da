/-
  SEAT b6601481a: THE LAW (6), its first part.
-/
import Derived.Test.Qxb6601481aLaw0
import Derived.BigQuiet
namespace Go.Proofs.Qxb6601481a
open Go.RowKit Go.Deep
set_option linter.unusedVariables false
set_option linter.unusedSimpArgs false

theorem bytes_bool (a : Option Addr) (n c : Nat) (o : Nat → Out) (s : Nat → Option Addr × Nat × Nat) (b1 b2 : Bool) (ph : Int) (w : World) (H : OutsV 0 w.heap.size w a n o s) :
    Calls Try.prog 18 #[.slice a n c, .bool b1, .bool b2, .int .i64 ph] w fun e w' => (∃ bv : Bool, e = .returned (.bool bv) ∧ Hid (bv = true → n ≤ 1048576 ∧ ∀ i, i < n → (o i).nl ≤ 1048576)) ∧ w' = w := by
  refine (bytes_any a n c o s b1 b2 ph w H).mono ?_
  rintro e w' ⟨h, hw⟩
  refine ⟨?_, hw⟩
  rcases h with rfl | ⟨rfl, h1, h2⟩
  · exact ⟨false, rfl, fun h => by cases h⟩
  · exact ⟨true, rfl, fun _ => ⟨h1, h2⟩⟩

set_option maxHeartbeats 8000000 in
set_option maxRecDepth 100000 in
theorem p1 (n c0 : Nat) (P : Int) (cS wP : Bool) (a0 : Option Addr) (o : Nat → Out) (s0 : Nat → Option Addr × Nat × Nat) (w : World)
    (hnext : ∀ (d4 d5 d6 d7 d8 d9 d10 d11 d12 d13 d14 d15 d16 d17 d18 d19 d20 d21 d22 d23 d24 d25 d26 d27 d28 d29 d30 d31 d32 d33 d34 d35 d36 d37 d38 d39 d40 d41 d42 d43 d44 d45 d46 d47 d48 d49 d50 d51 d52 d53 d54 d55 d56 d57 d58 d59 d60 d61 d62 d63 d64 d65 d66 d67 d68 d69 d70 d71 d72 d73 d74 d75 d76 d77 d78 d79 d80 d81 d82 d83 d84 d85 d86 d87 d88 d89 d90 d91 d92 d93 d94 d95 d96 d97 d98 d99 d100 d101 d102 d103 d104 d105 d106 d107 d108 d109 d110 d111 d112 d113 d114 d115 d116 d117 d118 d119 d120 d121 d122 d123 d124 d125 d126 d127 d128 d129 d130 d131 d132 d133 d134 d135 d136 d137 d138 d139 d140 d141 d142 d143 d144 d145 d146 d147 d148 d149 d150 d151 d152 d153 d154 d155 d156 d157 d158 d159 d160 d161 d162 d163 d164 d165 d166 d167 d168 d169 d170 d171 d172 d173 d174 d175 d176 d177 d178 d179 d180 d181 d182 d183 d184 d185 d186 d187 d188 d189 d190 d191 d192 d193 d194 d195 d196 d197 d198 d199 d200 d201 d202 d203 d204 d205 d206 d207 d208 d209 d210 d211 d212 d213 d214 d215 d216 d217 d218 d219 d220 d221 d222 d223 d224 d225 d226 d227 d228 d229 d230 d231 d232 d233 d234 d235 d236 d237 d238 d239 d240 d241 d242 d243 d244 d245 d246 d247 d248 d249 d250 d251 d252 d253 d254 d255 d256 d257 d258 d259 d260 d261 d262 d263 d264 d265 d266 d267 d268 d269 d270 d271 d272 d273 d274 d275 d276 d277 d278 d279 d280 d281 d282 d283 d284 d285 d286 d287 d288 d289 d290 d291 d292 d293 d294 d295 d296 d297 d298 d299 d300 d301 d302 d303 d304 d305 d306 d307 d308 d309 d310 d311 d312 d313 d314 d315 d316 d317 d318 d319 d320 d321 d322 d323 d324 d325 d326 d327 d328 d329 d330 d331 d332 d333 d334 d335 d336 d337 d338 d339 d340 d341 d342 d343 d344 d345 d346 d347 d348 d349 d350 d351 d352 d353 d354 d355 d356 d357 d358 d359 d360 d361 d362 d363 d364 d365 d366 : Value) (ph : Nat) (V : World) (K : Act → World → Prop), P = (ph : Int) → (∀ a w', Code.wp Try.prog (dropS 9 (Try.f6.body.getD .skip)) (Ends w) a w' → K a w') → (n ≤ 4096 ∧ ph ≤ 4096 ∧ (∀ i, i < n → (o i).nl ≤ 1048576) ∧ Below w.heap.size w V ∧ Fit o n ∧ (∀ i, i < n → (o i).sf = true → cS = true) ∧ (wP = true → 0 < ph → ∀ i, i < n → 0 < (o i).nl)) → Code.wp Try.prog (headS (dropS 8 (Try.f6.body.getD .skip))) (Exit.then K (Ends w)) ⟨List.toArray ((.slice a0 n c0) :: (.bool cS) :: (.bool wP) :: (.int .i64 (ph : Int)) :: d4 :: d5 :: d6 :: d7 :: d8 :: d9 :: d10 :: d11 :: d12 :: d13 :: d14 :: d15 :: d16 :: d17 :: d18 :: d19 :: d20 :: d21 :: d22 :: d23 :: d24 :: d25 :: d26 :: d27 :: d28 :: d29 :: d30 :: d31 :: d32 :: d33 :: d34 :: d35 :: d36 :: d37 :: d38 :: d39 :: d40 :: d41 :: d42 :: d43 :: d44 :: d45 :: d46 :: d47 :: d48 :: d49 :: d50 :: d51 :: d52 :: d53 :: d54 :: d55 :: d56 :: d57 :: d58 :: d59 :: d60 :: d61 :: d62 :: d63 :: d64 :: d65 :: d66 :: d67 :: d68 :: d69 :: d70 :: d71 :: d72 :: d73 :: d74 :: d75 :: d76 :: d77 :: d78 :: d79 :: d80 :: d81 :: d82 :: d83 :: d84 :: d85 :: d86 :: d87 :: d88 :: d89 :: d90 :: d91 :: d92 :: d93 :: d94 :: d95 :: d96 :: d97 :: d98 :: d99 :: d100 :: d101 :: d102 :: d103 :: d104 :: d105 :: d106 :: d107 :: d108 :: d109 :: d110 :: d111 :: d112 :: d113 :: d114 :: d115 :: d116 :: d117 :: d118 :: d119 :: d120 :: d121 :: d122 :: d123 :: d124 :: d125 :: d126 :: d127 :: d128 :: d129 :: d130 :: d131 :: d132 :: d133 :: d134 :: d135 :: d136 :: d137 :: d138 :: d139 :: d140 :: d141 :: d142 :: d143 :: d144 :: d145 :: d146 :: d147 :: d148 :: d149 :: d150 :: d151 :: d152 :: d153 :: d154 :: d155 :: d156 :: d157 :: d158 :: d159 :: d160 :: d161 :: d162 :: d163 :: d164 :: d165 :: d166 :: d167 :: d168 :: d169 :: d170 :: d171 :: d172 :: d173 :: d174 :: d175 :: d176 :: d177 :: d178 :: d179 :: d180 :: d181 :: d182 :: d183 :: d184 :: d185 :: d186 :: d187 :: d188 :: d189 :: d190 :: d191 :: d192 :: d193 :: d194 :: d195 :: d196 :: d197 :: d198 :: d199 :: d200 :: d201 :: d202 :: d203 :: d204 :: d205 :: d206 :: d207 :: d208 :: d209 :: d210 :: d211 :: d212 :: d213 :: d214 :: d215 :: d216 :: d217 :: d218 :: d219 :: d220 :: d221 :: d222 :: d223 :: d224 :: d225 :: d226 :: d227 :: d228 :: d229 :: d230 :: d231 :: d232 :: d233 :: d234 :: d235 :: d236 :: d237 :: d238 :: d239 :: d240 :: d241 :: d242 :: d243 :: d244 :: d245 :: d246 :: d247 :: d248 :: d249 :: d250 :: d251 :: d252 :: d253 :: d254 :: d255 :: d256 :: d257 :: d258 :: d259 :: d260 :: d261 :: d262 :: d263 :: d264 :: d265 :: d266 :: d267 :: d268 :: d269 :: d270 :: d271 :: d272 :: d273 :: d274 :: d275 :: d276 :: d277 :: d278 :: d279 :: d280 :: d281 :: d282 :: d283 :: d284 :: d285 :: d286 :: d287 :: d288 :: d289 :: d290 :: d291 :: d292 :: d293 :: d294 :: d295 :: d296 :: d297 :: d298 :: d299 :: d300 :: d301 :: d302 :: d303 :: d304 :: d305 :: d306 :: d307 :: d308 :: d309 :: d310 :: d311 :: d312 :: d313 :: d314 :: d315 :: d316 :: d317 :: d318 :: d319 :: d320 :: d321 :: d322 :: d323 :: d324 :: d325 :: d326 :: d327 :: d328 :: d329 :: d330 :: d331 :: d332 :: d333 :: d334 :: d335 :: d336 :: d337 :: d338 :: d339 :: d340 :: d341 :: d342 :: d343 :: d344 :: d345 :: d346 :: d347 :: d348 :: d349 :: d350 :: d351 :: d352 :: d353 :: d354 :: d355 :: d356 :: d357 :: d358 :: d359 :: d360 :: d361 :: d362 :: d363 :: d364 :: d365 :: d366 :: []), []⟩ V)
    (H : OutsV 0 w.heap.size w a0 n o s0) :
    Calls Try.prog 6 #[.slice a0 n c0, .bool cS, .bool wP, .int .i64 P] w fun e w' => e = .returned (.bool true) ∧ Below w.heap.size w w' := by
  have HX := hid0 hnext
  clear hnext
  have HH := hid0 H
  have C18 := bytes_bool a0 n c0 o s0 cS wP P w H
  clear H
  go_enter Try.func6, Try.ntmps6
  go_upto_if 39 with (first | (go_at_call 18; refine C18.mono ?_; rintro e w' ⟨⟨bv, rfl, hbv⟩, hw⟩; obtain rfl := hw.symm))
  clear C18
  cases bv
  · clear hbv
    go_wp2
    go_ret
    exact ⟨rfl, Below.refl _ _⟩
  have hnb := hbv.out rfl
  clear hbv
  by_cases h1 : n ≤ 4096
  case neg =>
    have h1' : (4096 : Int) < (n : Int) := by omega
    go_wp2
    go_ret
    exact ⟨rfl, Below.refl _ _⟩
  have h1' : ¬ (4096 : Int) < (n : Int) := by omega
  by_cases h2 : P < 0
  case pos =>
    go_wp2
    go_ret
    exact ⟨rfl, Below.refl _ _⟩
  by_cases h3 : 4096 < P
  case pos =>
    go_wp2
    go_ret
    exact ⟨rfl, Below.refl _ _⟩
  obtain ⟨ph, rfl⟩ := Int.eq_ofNat_of_zero_le (show 0 ≤ P by omega)
  have hph : ph ≤ 4096 := by omega
  have HL := hid0 hnb.2
  clear hnb
  go_wp2
  go_loopw [9, 10] (fun z i wr => ∃ k : Nat, k ≤ n ∧ i = .int .i64 k ∧ (∃ zz : Nat, z = .int .i64 zz ∧ zz ≤ 1048576) ∧ wr = w) (fun _ i _ => n - (intOf i).toNat)
  case atStart => exact ⟨0, Nat.zero_le _, rfl, ⟨96 * n + 8 * ph, by go_num, by omega⟩, rfl⟩
  case round =>
    obtain ⟨k, hk, rfl, ⟨zz, rfl, hz⟩, hwr⟩ := hrel
    obtain rfl := hwr.symm
    clear hwr
    by_cases hlt : k < n
    · as_aux_lemma =>
      obtain ⟨b, off, ha, HO⟩ : ∃ b off, a0 = some ⟨b, off, none⟩ ∧ Outs 0 w.heap.size w b off n o s0 := by
        rcases HH.out with h | h
        · omega
        · exact h
      clear HX HH
      subst ha
      have q1 := outs_slot HO k hlt 8 (sv (s0 k)) rfl
      have hix := index51 b off n c0 k hlt
      have hl := bools_len (HO.bl k hlt)
      unfold sv at q1
      rw [hl] at q1
      have hnl := HL.out k hlt
      have hnl' : ¬ (1048576 : Int) < ((o k).nl : Int) := by omega
      clear HO hl HL
      by_cases h2z : zz + (o k).nl ≤ 1048576
      · have h2' : ¬ (1048576 : Int) < (zz : Int) + ((o k).nl : Int) := by omega
        go_wp2
        go_roundw
        case rel => exact ⟨k + 1, by omega, by go_num, ⟨zz + (o k).nl, by go_num, h2z⟩, trivial⟩
        case measure => simp [intOf]; omega
      · have h2' : (1048576 : Int) < (zz : Int) + ((o k).nl : Int) := by omega
        go_wp2
        go_ret
        exact ⟨rfl, Below.refl _ _⟩
    · as_aux_lemma =>
      have e : k = n := by omega
      subst e
      have hz' : ¬ (1048576 : Int) < (zz : Int) := by omega
      go_wp2
      go_loopw [11] (fun i wr => ∃ j : Nat, j ≤ k ∧ i = .int .i64 j ∧ Below w.heap.size w wr ∧ (∀ i, i < j → (o i).lr ≤ 1099511627776 ∧ -1099511627776 ≤ (o i).pp ∧ (o i).pp ≤ 1099511627776 ∧ ((o i).sf = true → cS = true) ∧ (wP = true → 0 < ph → 0 < (o i).nl))) (fun i _ => k - (intOf i).toNat)
      case atStart => exact ⟨0, Nat.zero_le _, rfl, Below.refl _ _, fun i hi => absurd hi (Nat.not_lt_zero _)⟩
      case round =>
        obtain ⟨j, hj, rfl, hB, hall⟩ := hrel
        have HA := hid0 hall
        have HBL := hid0 hB
        clear hall
        by_cases hlt : j < k
        · as_aux_lemma =>
          obtain ⟨b, off, ha, HO⟩ : ∃ b off, a0 = some ⟨b, off, none⟩ ∧ Outs 0 w.heap.size w b off k o s0 := by
            rcases HH.out with h | h
            · omega
            · exact h
          clear HX HH
          subst ha
          have hbw : b < w.heap.size := HO.lt (by omega)
          have HOr : Outs 0 w.heap.size wr b off k o s0 := HO.kept (fun _ => hB.block b hbw) (fun q _ hq => hB.block q hq)
          have hix := index51 b off k c0 j hlt
          obtain ⟨OC, hOC'⟩ : ∃ OC, oc (o j) (sv (s0 j)) = OC := ⟨_, rfl⟩
          have hr : wr.rangeAt b (off + j * 11) OC.toList := by rw [← hOC']; exact HOr.row j hlt
          have hsO : (Try.prog.info? 34).map (·.size) = some OC.size := by rw [← hOC']; exact size34
          have hsO' : (Try.prog.info? 34).map (·.size) = some OC.toList.length := by rw [← hOC']; exact size34
          have h1O : OC.all (·.oneCell') = true := by rw [← hOC']; exact oc_one _ _ _ _
          have hOz : OC.size = ocz.size := by rw [← hOC']; rfl
          have hthO : (wr.alloc (.cells ocz 34)).there wr.heap.size 0 OC.size := (has_new wr 34 ocz).there 0 _ (by rw [hOz]; exact Nat.le_refl _)
          unfold ocz oc at hthO
          have hlen := bools_len (HOr.bl j hlt)
          have hOC := hid0 (show OC = oc (o j) (.slice (s0 j).1 (o j).nl (s0 j).2.2) by rw [← hOC', ← hlen]; rfl)
          clear hOC' hlen HO HOr hB
          have T1 : Below wr.heap.size wr ((wr.alloc (.cells ocz 34)).setCells wr.heap.size 0 OC.toList) := Below_setCells ((Below.refl _ _).alloc (Nat.le_refl _) _) (Nat.le_refl _) _ _
          have T2 : Has ((wr.alloc (.cells ocz 34)).setCells wr.heap.size 0 OC.toList) wr.heap.size 34 OC := (has_new wr 34 ocz).setAll OC hOz
          have T3 := hid0 (And.intro T2 (HBL.out.trans (T1.mono HBL.out.size)))
          clear T1 T2 HBL hOz
          go_upto_region 21 with (first | (refine wpList_load_mid rfl 34 (.tmp 90) rfl b (off + j * 11) rfl OC.toList _ hr Try.underlying34 rfl hsO' ?_; rw [Array.toArray_toList]) | (refine wpList_store_mid rfl 34 (.tmp 12) (.tmp 91) rfl wr.heap.size 0 OC rfl rfl hthO hsO h1O ?_))
          refine gen_world (fun X => Has X wr.heap.size 34 OC ∧ Below w.heap.size w X) T3.out ?_
          clear T3 hr hthO hsO hsO' h1O hix
          rintro X ⟨HX, hBX⟩
          go_frame
          have HBX := hid0 hBX
          clear hBX
          obtain ⟨oo, hoo⟩ : ∃ oo, o j = oo := ⟨_, rfl⟩
          have HOO := hid0 hoo
          rw [hoo] at hOC
          clear hoo
          have q5 := HX.cell 5 (.int .i64 oo.lr) (by rw [hOC.out]; rfl)
          have q10 := HX.cell 10 (.int .i64 oo.pp) (by rw [hOC.out]; rfl)
          have q4 := HX.cell 4 (.bool oo.sf) (by rw [hOC.out]; rfl)
          have q8 := HX.cell 8 (.slice (s0 j).1 oo.nl (s0 j).2.2) (by rw [hOC.out]; rfl)
          clear HX
          by_cases g1 : 1099511627776 < oo.lr
          case pos =>
            go_wp2
            go_ret
            exact ⟨rfl, HBX.out⟩
          by_cases g2 : 1099511627776 < oo.pp
          case pos =>
            go_wp2
            go_ret
            exact ⟨rfl, HBX.out⟩
          by_cases g3 : oo.pp < -1099511627776
          case pos =>
            go_wp2
            go_ret
            exact ⟨rfl, HBX.out⟩
          go_upto_region 23 with fail
          obtain ⟨sfb, hsfb⟩ : ∃ sfb, oo.sf = sfb := ⟨_, rfl⟩
          rw [hsfb] at q4
          have HSF := hid0 hsfb
          clear hsfb
          by_cases g4 : sfb = true ∧ cS = false
          case pos =>
            obtain ⟨rfl, rfl⟩ := g4
            go_wp2
            go_ret
            exact ⟨rfl, HBX.out⟩
          have g4' : sfb = false ∨ (sfb = true ∧ cS = true) := by
            cases sfb
            · exact .inl rfl
            · cases cS
              · exact absurd ⟨rfl, rfl⟩ g4
              · exact .inr ⟨rfl, rfl⟩
          have GSF := hid0 (show oo.sf = true → cS = true by
            intro h
            rw [HSF.out] at h
            rcases g4' with h' | h'
            · rw [h] at h'; cases h'
            · exact h'.2)
          clear g4
          go_cut [110] from 82 to 121 (fun s110 wx => s110 = .bool false ∧ wx = X)
          case first =>
            rcases g4' with h' | h'
            · subst h'
              go_wp2
              go_meet
              case rel => exact ⟨rfl, rfl⟩
            · obtain ⟨rfl, rfl⟩ := h'
              go_wp2
              go_meet
              case rel => exact ⟨rfl, rfl⟩
          obtain ⟨rfl, hwc⟩ := hcut
          obtain rfl := hwc.symm
          clear g4' q4 HSF hwc
          go_upto_region 25 with fail
          by_cases g5 : wP = true ∧ 0 < ph ∧ oo.nl = 0
          case pos =>
            obtain ⟨rfl, g6, g7⟩ := g5
            have g6' : (0 : Int) < (ph : Int) := by omega
            rw [g7] at q8
            go_wp2
            go_ret
            exact ⟨rfl, HBX.out⟩
          have g5' : wP = false ∨ (wP = true ∧ ph = 0) ∨ (wP = true ∧ 0 < ph ∧ 0 < oo.nl) := by
            cases wP
            · exact .inl rfl
            · by_cases h0 : ph = 0
              · exact .inr (.inl ⟨rfl, h0⟩)
              · by_cases h9 : oo.nl = 0
                · exact absurd ⟨rfl, by omega, h9⟩ g5
                · exact .inr (.inr ⟨rfl, by omega, by omega⟩)
          have GNL := hid0 (show wP = true → 0 < ph → 0 < oo.nl by
            intro h h0
            rcases g5' with h' | h' | h'
            · rw [h] at h'; cases h'
            · omega
            · exact h'.2.2)
          clear g5
          go_cut [121] from 82 to 121 (fun s121 wx => s121 = .bool false ∧ wx = X)
          case first =>
            rcases g5' with h' | h' | h'
            · subst h'
              go_wp2
              go_meet
              case rel => exact ⟨rfl, rfl⟩
            · have g6 : ¬ (0 : Int) < (ph : Int) := by omega
              obtain ⟨rfl, h0⟩ := h'
              clear h0
              go_wp2
              go_meet
              case rel => exact ⟨rfl, rfl⟩
            · have g6 : (0 : Int) < (ph : Int) := by omega
              have g7 : ((oo.nl : Int) == 0) = false := by simp; omega
              have g8 : ¬ oo.nl = 0 := by omega
              obtain ⟨rfl, h0⟩ := h'
              clear h0
              go_wp2
              go_meet
              case rel => exact ⟨rfl, rfl⟩
          obtain ⟨rfl, hwc⟩ := hcut
          obtain rfl := hwc.symm
          clear g5' q8 hwc
          go_wp2
          go_roundw
          case rel =>
            refine ⟨j + 1, by omega, by go_num, HBX.out, fun i hi => ?_⟩
            by_cases e : i = j
            · subst e
              rw [HOO.out]
              exact ⟨by omega, by omega, by omega, GSF.out, GNL.out⟩
            · exact HA.out i (by omega)
          case measure => simp [intOf]; omega
        · as_aux_lemma =>
          have e : j = k := by omega
          subst e
          have GF := hid0 (show (j ≤ 4096 ∧ ph ≤ 4096 ∧ (∀ i, i < j → (o i).nl ≤ 1048576) ∧ Below w.heap.size w wr ∧ Fit o j ∧ (∀ i, i < j → (o i).sf = true → cS = true) ∧ (wP = true → 0 < ph → ∀ i, i < j → 0 < (o i).nl)) from ⟨h1, hph, HL.out, hB, ⟨fun i hi => (HA.out i hi).1, fun i hi => (HA.out i hi).2.1, fun i hi => (HA.out i hi).2.2.1⟩, fun i hi => (HA.out i hi).2.2.2.1, fun h h0 i hi => (HA.out i hi).2.2.2.2 h h0⟩)
          clear hB HA HBL HL HH
          go_upto_region 27 with fail
          rename_i K9 hK9
          exact HX.out _ _ _ _ _ _ _ _ _ _ _ _ _ _ _ _ _ _ _ _ _ _ _ _ _ _ _ _ _ _ _ _ _ _ _ _ _ _ _ _ _ _ _ _ _ _ _ _ _ _ _ _ _ _ _ _ _ _ _ _ _ _ _ _ _ _ _ _ _ _ _ _ _ _ _ _ _ _ _ _ _ _ _ _ _ _ _ _ _ _ _ _ _ _ _ _ _ _ _ _ _ _ _ _ _ _ _ _ _ _ _ _ _ _ _ _ _ _ _ _ _ _ _ _ _ _ _ _ _ _ _ _ _ _ _ _ _ _ _ _ _ _ _ _ _ _ _ _ _ _ _ _ _ _ _ _ _ _ _ _ _ _ _ _ _ _ _ _ _ _ _ _ _ _ _ _ _ _ _ _ _ _ _ _ _ _ _ _ _ _ _ _ _ _ _ _ _ _ _ _ _ _ _ _ _ _ _ _ _ _ _ _ _ _ _ _ _ _ _ _ _ _ _ _ _ _ _ _ _ _ _ _ _ _ _ _ _ _ _ _ _ _ _ _ _ _ _ _ _ _ _ _ _ _ _ _ _ _ _ _ _ _ _ _ _ _ _ _ _ _ _ _ _ _ _ _ _ _ _ _ _ _ _ _ _ _ _ _ _ _ _ _ _ _ _ _ _ _ _ _ _ _ _ _ _ _ _ _ _ _ _ _ _ _ _ _ _ _ _ _ _ _ _ _ _ _ _ _ _ _ _ _ _ _ _ _ _ _ _ _ _ _ _ _ _ _ _ _ _ _ _ _ _ _ _ _ _ _ _ _ _ _ _ ph wr K9 rfl hK9 GF.out
end Go.Proofs.Qxb6601481a
