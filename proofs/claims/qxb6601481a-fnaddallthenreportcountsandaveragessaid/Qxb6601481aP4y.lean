/-
  SEAT b6601481a: THE LAW (6), its fourth part.
-/
import Derived.Test.Qxb6601481aLaw0
import Derived.BigQuiet
namespace Go.Proofs.Qxb6601481a
open Go.RowKit Go.Deep
set_option linter.unusedVariables false
set_option linter.unusedSimpArgs false

set_option maxHeartbeats 4000000 in
set_option maxRecDepth 100000 in
theorem p4_y {c1 c4 c5 c6 c7 c8 c9 c10 c11 c12 c14 c15 c18 c19 c22 c23 c24 c25 c26 c27 c28 c29 c30 c31 c32 c33 c34 c35 c36 c37 c38 c39 c40 c41 c42 c43 c44 c45 c46 c47 c48 c49 c50 c51 c52 c53 c54 c55 c56 c57 c58 c59 c60 c61 c62 c63 c64 c65 c66 c67 c68 c69 c70 c71 c72 c73 c74 c75 c76 c77 c78 c79 c80 c81 c82 c83 c84 c85 c86 c87 c88 c89 c90 c91 c92 c93 c94 c95 c96 c97 c98 c99 c100 c101 c102 c103 c104 c105 c106 c107 c108 c109 c110 c111 c112 c113 c114 c115 c116 c117 c118 c119 c120 c121 c122 c123 c124 c125 c126 c127 c128 c129 c130 c131 c132 c133 c134 c135 c136 c137 c138 c139 c140 c141 c142 c143 c144 c145 c146 c147 c148 c149 c150 c151 c152 c153 c154 c155 c156 c157 c158 c159 c160 c161 c162 c163 c164 c165 c166 c167 c168 c169 c170 c171 c172 c173 c174 c175 c176 c177 c178 c179 c180 c181 c182 c183 c184 c185 c186 c187 c188 c189 c190 c191 c192 c193 c194 c195 c196 c197 c198 c199 c200 c201 c202 c203 c204 c205 c206 c207 c208 c209 c210 c211 c212 c213 c214 c215 c216 c217 c218 c219 c220 c221 c222 c223 c224 c225 c226 c227 c228 c229 c230 c231 c232 c233 c234 c235 c236 c237 c238 c239 c240 c241 c242 c243 c244 c245 c246 c247 c248 c249 c250 c251 c252 c253 c254 c255 c256 c257 c258 c259 c260 c261 c262 c263 c264 c265 c266 c267 c268 c269 c270 c271 c272 c273 c274 c275 c276 c277 c278 c279 c280 c281 c282 c283 c284 c285 c286 c287 c288 c289 c290 c291 c292 c293 c294 c295 c296 c297 c298 c299 c300 c301 c302 c303 c304 c305 c306 c307 c308 c309 c310 c311 c312 c313 c314 c315 c316 c317 c318 c319 c320 c321 c322 c323 c324 c325 c326 c327 c328 c329 c330 c331 c332 c333 c334 c335 c336 c337 c338 c339 c340 c341 c342 c343 c344 c345 c346 c347 c348 c349 c350 c351 c352 c353 c354 c355 c356 c357 c358 c359 c360 c361 c362 c363 c364 c365 c366 : Value} (B RP WT n ph c : Nat) (a : Option Addr) (o : Nat → Out) (s : Nat → Option Addr × Nat × Nat) (mean : Nat) (cr cw : Array Value) (dec lo rmax : Int) (w W : World) (K : Act → World → Prop) (hK : ∀ a w', Code.wp Try.prog (dropS 26 (Try.f6.body.getD .skip)) (Ends w) a w' → K a w')
    (hnext : ∀ (d8 d29 d30 d31 d32 d33 d34 d35 d36 d37 d38 d39 d40 d41 d42 d43 d44 d45 d46 d47 d48 d49 d50 d51 d52 d53 d54 d55 d56 d57 d58 d59 d60 d61 d62 d63 d64 d65 d66 d67 d68 d69 d70 d71 d72 d73 d74 d75 d76 d77 d78 d79 d80 d81 d82 d83 d84 d85 d86 d87 d88 d89 d90 d91 d92 d93 d94 d95 d96 d97 d98 d99 d100 d101 d102 d103 d104 d105 d106 d107 d108 d109 d110 d111 d112 d113 d114 d115 d116 d117 d118 d119 d120 d121 d122 d123 d124 d125 d126 d127 d128 d129 d130 d131 d132 d133 d134 d135 d136 d137 d138 d139 d140 d141 d142 d143 d144 d145 d146 d147 d148 d149 d150 d151 d152 d153 d154 d155 d156 d157 d158 d159 d160 d161 d162 d163 d164 d165 d166 d167 d168 d169 d170 d171 d172 d173 d174 d175 d176 d177 d178 d179 d180 d181 d182 d183 d184 d185 d186 d187 d188 d189 d190 d191 d192 d193 d194 d195 d196 d197 d198 d199 d200 d201 d202 d203 d204 d205 d206 d207 d208 d209 d210 d211 d212 d213 d214 d215 d216 d217 d218 d219 d220 d221 d222 d223 d224 d225 d226 d227 d228 d229 d230 d231 d232 d233 d234 d235 d236 d237 d238 d239 d240 d241 d242 d243 d244 d245 d246 d247 d248 d249 d250 d251 d252 d253 d254 d255 d256 d257 d258 d259 d260 d261 d262 d263 d264 d265 d266 d267 d268 d269 d270 d271 d272 d273 d274 d275 d276 d277 d278 d279 d280 d281 d282 d283 d284 d285 d286 d287 d288 d289 d290 d291 d292 d293 d294 d295 d296 d297 d298 d299 d300 d301 d302 d303 d304 d305 d306 d307 d308 d309 d310 d311 d312 d313 d314 d315 d316 d317 d318 d319 d320 d321 d322 d323 d324 d325 d326 d327 d328 d329 d330 d331 d332 d333 d334 d335 d336 d337 d338 d339 d340 d341 d342 d343 d344 d345 d346 d347 d348 d349 d350 d351 d352 d353 d354 d355 d356 d357 d358 d359 d360 d361 d362 d363 d364 d365 d366 : Value) (W' : World) (K : Act → World → Prop), (∀ a w', Code.wp Try.prog (dropS 29 (Try.f6.body.getD .skip)) (Ends w) a w' → K a w') → Below W.heap.size W W' → W'.rowIs W.heap.size 3 ph (fun j => .int .i64 ((tot o n).na j)) → Code.wp Try.prog (headS (dropS 28 (Try.f6.body.getD .skip))) (Exit.then K (Ends w)) ⟨List.toArray ((.slice a n c) :: c1 :: (.bool true) :: (.int .i64 (ph : Int)) :: c4 :: c5 :: c6 :: c7 :: d8 :: c9 :: c10 :: c11 :: c12 :: (.int .i64 (n : Int)) :: c14 :: c15 :: (.pointer (some ⟨RP, 0, none⟩)) :: (.pointer (some ⟨WT, 0, none⟩)) :: c18 :: c19 :: (.int .i64 dec) :: (.int .i64 lo) :: c22 :: c23 :: c24 :: c25 :: c26 :: c27 :: (.slice (some ⟨W.heap.size, 0, none⟩) ph ph) :: d29 :: d30 :: d31 :: d32 :: d33 :: d34 :: d35 :: d36 :: d37 :: d38 :: d39 :: d40 :: d41 :: d42 :: d43 :: d44 :: d45 :: d46 :: d47 :: d48 :: d49 :: d50 :: d51 :: d52 :: d53 :: d54 :: d55 :: d56 :: d57 :: d58 :: d59 :: d60 :: d61 :: d62 :: d63 :: d64 :: d65 :: d66 :: d67 :: d68 :: d69 :: d70 :: d71 :: d72 :: d73 :: d74 :: d75 :: d76 :: d77 :: d78 :: d79 :: d80 :: d81 :: d82 :: d83 :: d84 :: d85 :: d86 :: d87 :: d88 :: d89 :: d90 :: d91 :: d92 :: d93 :: d94 :: d95 :: d96 :: d97 :: d98 :: d99 :: d100 :: d101 :: d102 :: d103 :: d104 :: d105 :: d106 :: d107 :: d108 :: d109 :: d110 :: d111 :: d112 :: d113 :: d114 :: d115 :: d116 :: d117 :: d118 :: d119 :: d120 :: d121 :: d122 :: d123 :: d124 :: d125 :: d126 :: d127 :: d128 :: d129 :: d130 :: d131 :: d132 :: d133 :: d134 :: d135 :: d136 :: d137 :: d138 :: d139 :: d140 :: d141 :: d142 :: d143 :: d144 :: d145 :: d146 :: d147 :: d148 :: d149 :: d150 :: d151 :: d152 :: d153 :: d154 :: d155 :: d156 :: d157 :: d158 :: d159 :: d160 :: d161 :: d162 :: d163 :: d164 :: d165 :: d166 :: d167 :: d168 :: d169 :: d170 :: d171 :: d172 :: d173 :: d174 :: d175 :: d176 :: d177 :: d178 :: d179 :: d180 :: d181 :: d182 :: d183 :: d184 :: d185 :: d186 :: d187 :: d188 :: d189 :: d190 :: d191 :: d192 :: d193 :: d194 :: d195 :: d196 :: d197 :: d198 :: d199 :: d200 :: d201 :: d202 :: d203 :: d204 :: d205 :: d206 :: d207 :: d208 :: d209 :: d210 :: d211 :: d212 :: d213 :: d214 :: d215 :: d216 :: d217 :: d218 :: d219 :: d220 :: d221 :: d222 :: d223 :: d224 :: d225 :: d226 :: d227 :: d228 :: d229 :: d230 :: d231 :: d232 :: d233 :: d234 :: d235 :: d236 :: d237 :: d238 :: d239 :: d240 :: d241 :: d242 :: d243 :: d244 :: d245 :: d246 :: d247 :: d248 :: d249 :: d250 :: d251 :: d252 :: d253 :: d254 :: d255 :: d256 :: d257 :: d258 :: d259 :: d260 :: d261 :: d262 :: d263 :: d264 :: d265 :: d266 :: d267 :: d268 :: d269 :: d270 :: d271 :: d272 :: d273 :: d274 :: d275 :: d276 :: d277 :: d278 :: d279 :: d280 :: d281 :: d282 :: d283 :: d284 :: d285 :: d286 :: d287 :: d288 :: d289 :: d290 :: d291 :: d292 :: d293 :: d294 :: d295 :: d296 :: d297 :: d298 :: d299 :: d300 :: d301 :: d302 :: d303 :: d304 :: d305 :: d306 :: d307 :: d308 :: d309 :: d310 :: d311 :: d312 :: d313 :: d314 :: d315 :: d316 :: d317 :: d318 :: d319 :: d320 :: d321 :: d322 :: d323 :: d324 :: d325 :: d326 :: d327 :: d328 :: d329 :: d330 :: d331 :: d332 :: d333 :: d334 :: d335 :: d336 :: d337 :: d338 :: d339 :: d340 :: d341 :: d342 :: d343 :: d344 :: d345 :: d346 :: d347 :: d348 :: d349 :: d350 :: d351 :: d352 :: d353 :: d354 :: d355 :: d356 :: d357 :: d358 :: d359 :: d360 :: d361 :: d362 :: d363 :: d364 :: d365 :: d366 :: []), []⟩ W')
    (HR : Has W RP 42 cr) (hcr : cr[16]? = some (.float .f64 mean)) (HW : Has W WT 42 cw) (hcw : cw[15]? = some (.int .i64 rmax)) (hph : ph ≤ 4096) (hn : n ≤ 4096)
    (hmean : (dec = 0 ∧ mean = 0) ∨ (0 < dec ∧ notGt (FloatKind.f64.format.order (floatOfInt .f64 lo) mean) ∧ notGt (FloatKind.f64.format.order mean (floatOfInt .f64 rmax)))) (HO : OutsV 0 B W a n o s) (hBW : B ≤ W.heap.size) (hnl : 0 < ph → ∀ i, i < n → 0 < (o i).nl) (hnl2 : ∀ i, i < n → (o i).nl ≤ 1048576) (hsm : ∀ k, k ≤ n → Small o k) :
    Code.wp Try.prog (headS (dropS 25 (Try.f6.body.getD .skip))) (Exit.then K (Ends w)) ⟨List.toArray ((.slice a n c) :: c1 :: (.bool true) :: (.int .i64 (ph : Int)) :: c4 :: c5 :: c6 :: c7 :: c8 :: c9 :: c10 :: c11 :: c12 :: (.int .i64 (n : Int)) :: c14 :: c15 :: (.pointer (some ⟨RP, 0, none⟩)) :: (.pointer (some ⟨WT, 0, none⟩)) :: c18 :: c19 :: (.int .i64 dec) :: (.int .i64 lo) :: c22 :: c23 :: c24 :: c25 :: c26 :: c27 :: c28 :: c29 :: c30 :: c31 :: c32 :: c33 :: c34 :: c35 :: c36 :: c37 :: c38 :: c39 :: c40 :: c41 :: c42 :: c43 :: c44 :: c45 :: c46 :: c47 :: c48 :: c49 :: c50 :: c51 :: c52 :: c53 :: c54 :: c55 :: c56 :: c57 :: c58 :: c59 :: c60 :: c61 :: c62 :: c63 :: c64 :: c65 :: c66 :: c67 :: c68 :: c69 :: c70 :: c71 :: c72 :: c73 :: c74 :: c75 :: c76 :: c77 :: c78 :: c79 :: c80 :: c81 :: c82 :: c83 :: c84 :: c85 :: c86 :: c87 :: c88 :: c89 :: c90 :: c91 :: c92 :: c93 :: c94 :: c95 :: c96 :: c97 :: c98 :: c99 :: c100 :: c101 :: c102 :: c103 :: c104 :: c105 :: c106 :: c107 :: c108 :: c109 :: c110 :: c111 :: c112 :: c113 :: c114 :: c115 :: c116 :: c117 :: c118 :: c119 :: c120 :: c121 :: c122 :: c123 :: c124 :: c125 :: c126 :: c127 :: c128 :: c129 :: c130 :: c131 :: c132 :: c133 :: c134 :: c135 :: c136 :: c137 :: c138 :: c139 :: c140 :: c141 :: c142 :: c143 :: c144 :: c145 :: c146 :: c147 :: c148 :: c149 :: c150 :: c151 :: c152 :: c153 :: c154 :: c155 :: c156 :: c157 :: c158 :: c159 :: c160 :: c161 :: c162 :: c163 :: c164 :: c165 :: c166 :: c167 :: c168 :: c169 :: c170 :: c171 :: c172 :: c173 :: c174 :: c175 :: c176 :: c177 :: c178 :: c179 :: c180 :: c181 :: c182 :: c183 :: c184 :: c185 :: c186 :: c187 :: c188 :: c189 :: c190 :: c191 :: c192 :: c193 :: c194 :: c195 :: c196 :: c197 :: c198 :: c199 :: c200 :: c201 :: c202 :: c203 :: c204 :: c205 :: c206 :: c207 :: c208 :: c209 :: c210 :: c211 :: c212 :: c213 :: c214 :: c215 :: c216 :: c217 :: c218 :: c219 :: c220 :: c221 :: c222 :: c223 :: c224 :: c225 :: c226 :: c227 :: c228 :: c229 :: c230 :: c231 :: c232 :: c233 :: c234 :: c235 :: c236 :: c237 :: c238 :: c239 :: c240 :: c241 :: c242 :: c243 :: c244 :: c245 :: c246 :: c247 :: c248 :: c249 :: c250 :: c251 :: c252 :: c253 :: c254 :: c255 :: c256 :: c257 :: c258 :: c259 :: c260 :: c261 :: c262 :: c263 :: c264 :: c265 :: c266 :: c267 :: c268 :: c269 :: c270 :: c271 :: c272 :: c273 :: c274 :: c275 :: c276 :: c277 :: c278 :: c279 :: c280 :: c281 :: c282 :: c283 :: c284 :: c285 :: c286 :: c287 :: c288 :: c289 :: c290 :: c291 :: c292 :: c293 :: c294 :: c295 :: c296 :: c297 :: c298 :: c299 :: c300 :: c301 :: c302 :: c303 :: c304 :: c305 :: c306 :: c307 :: c308 :: c309 :: c310 :: c311 :: c312 :: c313 :: c314 :: c315 :: c316 :: c317 :: c318 :: c319 :: c320 :: c321 :: c322 :: c323 :: c324 :: c325 :: c326 :: c327 :: c328 :: c329 :: c330 :: c331 :: c332 :: c333 :: c334 :: c335 :: c336 :: c337 :: c338 :: c339 :: c340 :: c341 :: c342 :: c343 :: c344 :: c345 :: c346 :: c347 :: c348 :: c349 :: c350 :: c351 :: c352 :: c353 :: c354 :: c355 :: c356 :: c357 :: c358 :: c359 :: c360 :: c361 :: c362 :: c363 :: c364 :: c365 :: c366 :: []), []⟩ W := by
  show Code.wp Try.prog (.region _ _ _) _ _ _
  replace hK : ∀ a w', Code.wp Try.prog (.seq _ _) (Ends w) a w' → K a w' := hK
  have HX := hid0 hnext
  clear hnext
  unfold Ends at hK ⊢
  have hmk := run_make_row' (P := Try.prog) 54 3 (.int .i64 0) 8 Try.underlying54 info3 rfl .i64 .i64 ph (by omega) (by omega)
  have T1 : Below W.heap.size W (W.alloc (.cells (madeCells #[.int .i64 0] ph) 3)) := (Below.refl _ _).alloc (Nat.le_refl _) _
  have T2 := World.rowIs_made W (.int .i64 0) ph 3
  go_upto_region 73 with fail
  refine gen_world (fun V => Below W.heap.size W V ∧ V.rowIs W.heap.size 3 ph (fun j => .int .i64 (if j < 0 then (tot o n).na j else 0))) ⟨T1, T2.congr (fun j _ => by rw [if_neg (Nat.not_lt_zero _)])⟩ ?_
  clear T1 T2 hmk
  rintro V ⟨hV, hrow⟩
  have HV := hid0 hV
  have HRO := hid0 hrow
  clear hV hrow
  go_wp2
  go_loopw [29] (fun i wr => ∃ k : Nat, k ≤ ph ∧ i = .int .i64 k ∧ Below W.heap.size W wr ∧ wr.rowIs W.heap.size 3 ph (fun j => .int .i64 (if j < k then (tot o n).na j else 0))) (fun i _ => ph - (intOf i).toNat)
  case atStart => exact ⟨0, Nat.zero_le _, rfl, HV.out, HRO.out⟩
  case round =>
    clear HV HRO
    obtain ⟨k, hk, rfl, hV, hrow⟩ := hrel
    by_cases hlt : k < ph
    · as_aux_lemma =>
      have HV := hid0 hV
      have HRO := hid0 hrow
      clear hV hrow
      go_wp2
      go_loopw [30, 31] (fun cc i wi => ∃ i' : Nat, i' ≤ n ∧ i = .int .i64 i' ∧ cc = .int .i64 ((tot o i').na k) ∧ wi = wr) (fun _ i _ => n - (intOf i).toNat)
      case atStart => exact ⟨0, Nat.zero_le _, rfl, rfl, rfl⟩
      case round =>
        obtain ⟨i, hi, rfl, rfl, hwi⟩ := hrel
        obtain rfl := hwi.symm
        clear hwi
        by_cases hil : i < n
        · obtain ⟨b, off, ha, HOO⟩ : ∃ b off, a = some ⟨b, off, none⟩ ∧ Outs 0 B W b off n o s := by
            rcases HO with h | h
            · omega
            · exact h
          subst ha
          have hbV : b < W.heap.size := HOO.lt (by omega)
          have HOV : Outs 0 B wr b off n o s := HOO.kept (fun _ => HV.out.block b hbV) (fun q _ hq => HV.out.block q (by omega))
          have q1 := outs_slot HOV i hil 8 (sv (s i)) rfl
          have hix := index51 b off n c i hil
          obtain ⟨SV, hSV⟩ : ∃ SV, sv (s i) = SV := ⟨_, rfl⟩
          have C23 := notAgreedAt_any 0 B SV (o i).nl k (o i).na wr (by rw [← hSV]; exact HOV.bl i hil) (hnl (by omega) i hil) (hnl2 i hil)
          rw [hSV] at q1
          have hst : (tot o (i + 1)).na k = (tot o i).na k + b2 ((o i).na (min k ((o i).nl - 1))) := rfl
          have hb1 := (hsm i (by omega)).na k
          have hb2 := b2_le ((o i).na (min k ((o i).nl - 1)))
          have hw : wrap64 ((tot o i).na k + b2 ((o i).na (min k ((o i).nl - 1)))) = (tot o (i + 1)).na k := by rw [hst, wr64 _ (by omega) (by omega)]
          clear hst hb1 hb2 HOO HOV HO hSV
          obtain ⟨bv, hbv⟩ : ∃ bv, (o i).na (min k ((o i).nl - 1)) = bv := ⟨_, rfl⟩
          rw [hbv] at C23 hw
          clear hbv
          go_wp2_with (first | (go_at_call 23; refine C23.mono ?_; rintro e w' ⟨rfl, hq⟩; obtain rfl := hq.symm) | (go_at_call 21; refine (b2i_any bv _).mono ?_; rintro e w' ⟨rfl, hq⟩; obtain rfl := hq.symm))
          go_roundw
          case rel => exact ⟨i + 1, by omega, by go_num, by rw [hw], trivial⟩
          case measure => simp [intOf]; omega
        · have e : i = n := by omega
          subst e
          have q2 := HRO.out.cell hlt
          have q3 := HRO.out.frozen k
          have GG := hid0 (And.intro (HV.out.setCell (p := ⟨W.heap.size, k, none⟩) (Nat.le_refl _) (.int .i64 ((tot o i).na k))) ((HRO.out.set k (.int .i64 ((tot o i).na k))).congr (g := fun j => .int .i64 (if j < k + 1 then (tot o i).na j else 0)) (fun j hj => by
            by_cases e : j = k
            · subst e; simp
            · rw [if_neg e]
              by_cases e2 : j < k
              · rw [if_pos e2, if_pos (by omega)]
              · rw [if_neg e2, if_neg (by omega)])))
          clear HV HRO
          go_wp2
          go_roundw
          case rel => exact ⟨k + 1, by omega, by go_num, GG.out.1, GG.out.2⟩
          case measure => simp [intOf]; omega
    · as_aux_lemma =>
      have e : k = ph := by omega
      subst e
      have HN := hid0 (hrow.congr (g := fun j => .int .i64 ((tot o n).na j)) (fun j hj => by rw [if_pos hj]))
      clear hrow
      go_upto_if 289 with fail
      have h00 : FloatKind.f64.format.order 0 0 = some .eq := by decide
      go_cut [] from 34 (fun wx => wx = wr)
      case first => as_aux_lemma =>
        have x16 := (HR.of_block (hV.block _ HR.lt)).cell 16 _ hcr
        have y15 := (HW.of_block (hV.block _ HW.lt)).cell 15 _ hcw
        rcases hmean with ⟨hd, hm⟩ | ⟨hd, hl, hh⟩
        · subst hd
          subst hm
          go_wp2
          go_meet
          case rel => rfl
        · have hd1 : (dec == 0) = false := by simp; omega
          have hd2 : ¬ dec = 0 := by omega
          rcases hl with hl | hl <;> rcases hh with hh | hh
          all_goals
            go_wp2
            go_meet
            case rel => rfl
      case rest =>
      obtain rfl := hcut.symm
      go_upto_region 88 with fail
      rename_i K9 hK9
      exact HX.out _ _ _ _ _ _ _ _ _ _ _ _ _ _ _ _ _ _ _ _ _ _ _ _ _ _ _ _ _ _ _ _ _ _ _ _ _ _ _ _ _ _ _ _ _ _ _ _ _ _ _ _ _ _ _ _ _ _ _ _ _ _ _ _ _ _ _ _ _ _ _ _ _ _ _ _ _ _ _ _ _ _ _ _ _ _ _ _ _ _ _ _ _ _ _ _ _ _ _ _ _ _ _ _ _ _ _ _ _ _ _ _ _ _ _ _ _ _ _ _ _ _ _ _ _ _ _ _ _ _ _ _ _ _ _ _ _ _ _ _ _ _ _ _ _ _ _ _ _ _ _ _ _ _ _ _ _ _ _ _ _ _ _ _ _ _ _ _ _ _ _ _ _ _ _ _ _ _ _ _ _ _ _ _ _ _ _ _ _ _ _ _ _ _ _ _ _ _ _ _ _ _ _ _ _ _ _ _ _ _ _ _ _ _ _ _ _ _ _ _ _ _ _ _ _ _ _ _ _ _ _ _ _ _ _ _ _ _ _ _ _ _ _ _ _ _ _ _ _ _ _ _ _ _ _ _ _ _ _ _ _ _ _ _ _ _ _ _ _ _ _ _ _ _ _ _ _ _ _ _ _ _ _ _ _ _ _ _ _ _ _ _ _ _ _ _ _ _ _ _ _ _ _ _ _ _ _ _ _ _ _ _ _ _ _ _ _ _ _ _ _ _ _ _ _ _ _ _ _ _ _ _ _ _ _ _ _ _ _ wr K9 hK9 hV HN.out
end Go.Proofs.Qxb6601481a
