/-
  SEAT b6601481a: THE LAW (6), its second part.
-/
import Derived.Test.Qxb6601481aLaw0
import Derived.BigQuiet
namespace Go.Proofs.Qxb6601481a
open Go.RowKit Go.Deep
set_option linter.unusedVariables false
set_option linter.unusedSimpArgs false

theorem cloneOuts_any (a0 : Option Addr) (n c0 : Nat) (o : Nat → Out) (s0 : Nat → Option Addr × Nat × Nat) (w : World) (hn : n ≤ 1048576) (H : OutsV 0 w.heap.size w a0 n o s0) (hl : ∀ i, i < n → (o i).nl ≤ 1048576) :
    Calls Try.prog 19 #[.slice a0 n c0] w fun e w' => (∃ a c s, e = .returned (.slice a n c) ∧ OutsV 0 w'.heap.size w' a n o s ∧ (∀ b off, a = some ⟨b, off, none⟩ → b < w'.heap.size)) ∧ Below w.heap.size w w' := by
  rcases H with rfl | ⟨b, off, rfl, H⟩
  · cases a0 with
    | none =>
      refine (cloneOuts_nil c0 w).mono ?_
      rintro e w' ⟨rfl, hw⟩
      obtain rfl := hw.symm
      exact ⟨⟨none, 0, s0, rfl, .inl rfl, fun _ _ h => by cases h⟩, Below.refl _ _⟩
    | some ad =>
      refine (cloneOuts_empty ad c0 w).mono ?_
      rintro e w' ⟨rfl, h2, h3⟩
      exact ⟨⟨_, 0, s0, rfl, .inl rfl, fun b off h => by cases h; exact h3⟩, h2⟩
  · refine (cloneOuts_row b off n c0 o s0 w hn H hl).mono ?_
    rintro e w' ⟨rfl, ⟨s', h1⟩, h2, h3⟩
    exact ⟨⟨_, n, s', rfl, .inr ⟨_, _, rfl, h1⟩, fun b off h => by cases h; exact h3⟩, h2⟩

/-- the totals as they are born -/
def zc0 (n : Nat) (sp pp : Option Addr) : Array Value := zcells n sp pp 0 0 0 0 0 0 0 0 0 0 0

theorem wpList_build {ops : Array Oper} {rest : List Oper} {op : Oper} {a : Act} {w : World} {Q : Exit → Act → World → Prop} (hgd : op.guard = none) (t : TypeId) (parts : Array (Nat × Operand)) (ho : op.op = .build t parts) (vs : Array (Nat × Value)) (hv : (parts.map fun (i, x) => (i, a.eval x)) = vs) (v : Value) (hr : (Instr.build t vs).run Try.prog w = .ok v w)
    (h : wpList Try.prog ops Q rest (a.put op.dst v) w) : wpList Try.prog ops Q (op :: rest) a w :=
  wpList_plain hgd fun _ hK => by
    have e : (execOp a.eval op).run Try.prog w = .ok (.value v) w := by
      unfold execOp
      simp only [ho, hv, Sem.run_bind, hr, Result.andThen_ok, Sem.run_pure]
    unfold Oper.wp
    rw [e]
    exact hK _ _ h
set_option maxRecDepth 100000 in
theorem build42 (x : Int) (V : World) : (Instr.build 42 #[(3, .int .i64 x)]).run Try.prog V = .ok (.agg (rcells x none none 0 0 0 0 0 0 0 0)) V := by kernel_rfl
set_option maxRecDepth 100000 in
theorem build44 (x : Int) (V : World) : (Instr.build 44 #[(0, .agg (rcells x none none 0 0 0 0 0 0 0 0))]).run Try.prog V = .ok (.agg (zcells x none none 0 0 0 0 0 0 0 0 0 0 0)) V := by kernel_rfl

set_option maxHeartbeats 8000000 in
set_option maxRecDepth 100000 in
theorem p2 {c4 c5 c6 c7 c8 c9 c10 c11 c12 c13 c14 c15 c16 c17 c18 c19 c20 c21 c22 c23 c24 c25 c26 c27 c28 c29 c30 c31 c32 c33 c34 c35 c36 c37 c38 c39 c40 c41 c42 c43 c44 c45 c46 c47 c48 c49 c50 c51 c52 c53 c54 c55 c56 c57 c58 c59 c60 c61 c62 c63 c64 c65 c66 c67 c68 c69 c70 c71 c72 c73 c74 c75 c76 c77 c78 c79 c80 c81 c82 c83 c84 c85 c86 c87 c88 c89 c90 c91 c92 c93 c94 c95 c96 c97 c98 c99 c100 c101 c102 c103 c104 c105 c106 c107 c108 c109 c110 c111 c112 c113 c114 c115 c116 c117 c118 c119 c120 c121 c122 c123 c124 c125 c126 c127 c128 c129 c130 c131 c132 c133 c134 c135 c136 c137 c138 c139 c140 c141 c142 c143 c144 c145 c146 c147 c148 c149 c150 c151 c152 c153 c154 c155 c156 c157 c158 c159 c160 c161 c162 c163 c164 c165 c166 c167 c168 c169 c170 c171 c172 c173 c174 c175 c176 c177 c178 c179 c180 c181 c182 c183 c184 c185 c186 c187 c188 c189 c190 c191 c192 c193 c194 c195 c196 c197 c198 c199 c200 c201 c202 c203 c204 c205 c206 c207 c208 c209 c210 c211 c212 c213 c214 c215 c216 c217 c218 c219 c220 c221 c222 c223 c224 c225 c226 c227 c228 c229 c230 c231 c232 c233 c234 c235 c236 c237 c238 c239 c240 c241 c242 c243 c244 c245 c246 c247 c248 c249 c250 c251 c252 c253 c254 c255 c256 c257 c258 c259 c260 c261 c262 c263 c264 c265 c266 c267 c268 c269 c270 c271 c272 c273 c274 c275 c276 c277 c278 c279 c280 c281 c282 c283 c284 c285 c286 c287 c288 c289 c290 c291 c292 c293 c294 c295 c296 c297 c298 c299 c300 c301 c302 c303 c304 c305 c306 c307 c308 c309 c310 c311 c312 c313 c314 c315 c316 c317 c318 c319 c320 c321 c322 c323 c324 c325 c326 c327 c328 c329 c330 c331 c332 c333 c334 c335 c336 c337 c338 c339 c340 c341 c342 c343 c344 c345 c346 c347 c348 c349 c350 c351 c352 c353 c354 c355 c356 c357 c358 c359 c360 c361 c362 c363 c364 c365 c366 : Value} (n ph c0 : Nat) (cS wP : Bool) (a0 : Option Addr) (o : Nat → Out) (s0 : Nat → Option Addr × Nat × Nat) (w W : World) (K : Act → World → Prop) (hK : ∀ a w', Code.wp Try.prog (dropS 9 (Try.f6.body.getD .skip)) (Ends w) a w' → K a w')
    (hnext : ∀ (d16 d17 d18 d19 d20 d21 d22 d23 d24 d25 d26 d27 d28 d29 d30 d31 d32 d33 d34 d35 d36 d37 d38 d39 d40 d41 d42 d43 d44 d45 d46 d47 d48 d49 d50 d51 d52 d53 d54 d55 d56 d57 d58 d59 d60 d61 d62 d63 d64 d65 d66 d67 d68 d69 d70 d71 d72 d73 d74 d75 d76 d77 d78 d79 d80 d81 d82 d83 d84 d85 d86 d87 d88 d89 d90 d91 d92 d93 d94 d95 d96 d97 d98 d99 d100 d101 d102 d103 d104 d105 d106 d107 d108 d109 d110 d111 d112 d113 d114 d115 d116 d117 d118 d119 d120 d121 d122 d123 d124 d125 d126 d127 d128 d129 d130 d131 d132 d133 d134 d135 d136 d137 d138 d139 d140 d141 d142 d143 d144 d145 d146 d147 d148 d149 d150 d151 d152 d153 d154 d155 d156 d157 d158 d159 d160 d161 d162 d163 d164 d165 d166 d167 d168 d169 d170 d171 d172 d173 d174 d175 d176 d177 d178 d179 d180 d181 d182 d183 d184 d185 d186 d187 d188 d189 d190 d191 d192 d193 d194 d195 d196 d197 d198 d199 d200 d201 d202 d203 d204 d205 d206 d207 d208 d209 d210 d211 d212 d213 d214 d215 d216 d217 d218 d219 d220 d221 d222 d223 d224 d225 d226 d227 d228 d229 d230 d231 d232 d233 d234 d235 d236 d237 d238 d239 d240 d241 d242 d243 d244 d245 d246 d247 d248 d249 d250 d251 d252 d253 d254 d255 d256 d257 d258 d259 d260 d261 d262 d263 d264 d265 d266 d267 d268 d269 d270 d271 d272 d273 d274 d275 d276 d277 d278 d279 d280 d281 d282 d283 d284 d285 d286 d287 d288 d289 d290 d291 d292 d293 d294 d295 d296 d297 d298 d299 d300 d301 d302 d303 d304 d305 d306 d307 d308 d309 d310 d311 d312 d313 d314 d315 d316 d317 d318 d319 d320 d321 d322 d323 d324 d325 d326 d327 d328 d329 d330 d331 d332 d333 d334 d335 d336 d337 d338 d339 d340 d341 d342 d343 d344 d345 d346 d347 d348 d349 d350 d351 d352 d353 d354 d355 d356 d357 d358 d359 d360 d361 d362 d363 d364 d365 d366 : Value) (x : Zx) (a : Option Addr) (c : Nat) (s : Nat → Option Addr × Nat × Nat) (V : World) (K : Act → World → Prop), (∀ a w', Code.wp Try.prog (dropS 15 (Try.f6.body.getD .skip)) (Ends w) a w' → K a w') → (x.Ok ∧ x.hasS = cS ∧ x.hasP = wP ∧ x.ph = ph ∧ x.inst = n ∧ w.heap.size ≤ x.B ∧ x.St 0 0 (tot o n) V ∧ x.B ≤ V.heap.size ∧ OutsV 0 x.B V a n o s ∧ (∀ b off, a = some ⟨b, off, none⟩ → b < x.B) ∧ Below w.heap.size w V) → Code.wp Try.prog (headS (dropS 14 (Try.f6.body.getD .skip))) (Exit.then K (Ends w)) ⟨List.toArray ((.slice a n c) :: (.bool cS) :: (.bool wP) :: (.int .i64 (ph : Int)) :: c4 :: c5 :: c6 :: c7 :: c8 :: c9 :: c10 :: c11 :: c12 :: (.int .i64 (n : Int)) :: (.pointer (some ⟨x.Z, 0, none⟩)) :: (.int .i64 (n : Int)) :: d16 :: d17 :: d18 :: d19 :: d20 :: d21 :: d22 :: d23 :: d24 :: d25 :: d26 :: d27 :: d28 :: d29 :: d30 :: d31 :: d32 :: d33 :: d34 :: d35 :: d36 :: d37 :: d38 :: d39 :: d40 :: d41 :: d42 :: d43 :: d44 :: d45 :: d46 :: d47 :: d48 :: d49 :: d50 :: d51 :: d52 :: d53 :: d54 :: d55 :: d56 :: d57 :: d58 :: d59 :: d60 :: d61 :: d62 :: d63 :: d64 :: d65 :: d66 :: d67 :: d68 :: d69 :: d70 :: d71 :: d72 :: d73 :: d74 :: d75 :: d76 :: d77 :: d78 :: d79 :: d80 :: d81 :: d82 :: d83 :: d84 :: d85 :: d86 :: d87 :: d88 :: d89 :: d90 :: d91 :: d92 :: d93 :: d94 :: d95 :: d96 :: d97 :: d98 :: d99 :: d100 :: d101 :: d102 :: d103 :: d104 :: d105 :: d106 :: d107 :: d108 :: d109 :: d110 :: d111 :: d112 :: d113 :: d114 :: d115 :: d116 :: d117 :: d118 :: d119 :: d120 :: d121 :: d122 :: d123 :: d124 :: d125 :: d126 :: d127 :: d128 :: d129 :: d130 :: d131 :: d132 :: d133 :: d134 :: d135 :: d136 :: d137 :: d138 :: d139 :: d140 :: d141 :: d142 :: d143 :: d144 :: d145 :: d146 :: d147 :: d148 :: d149 :: d150 :: d151 :: d152 :: d153 :: d154 :: d155 :: d156 :: d157 :: d158 :: d159 :: d160 :: d161 :: d162 :: d163 :: d164 :: d165 :: d166 :: d167 :: d168 :: d169 :: d170 :: d171 :: d172 :: d173 :: d174 :: d175 :: d176 :: d177 :: d178 :: d179 :: d180 :: d181 :: d182 :: d183 :: d184 :: d185 :: d186 :: d187 :: d188 :: d189 :: d190 :: d191 :: d192 :: d193 :: d194 :: d195 :: d196 :: d197 :: d198 :: d199 :: d200 :: d201 :: d202 :: d203 :: d204 :: d205 :: d206 :: d207 :: d208 :: d209 :: d210 :: d211 :: d212 :: d213 :: d214 :: d215 :: d216 :: d217 :: d218 :: d219 :: d220 :: d221 :: d222 :: d223 :: d224 :: d225 :: d226 :: d227 :: d228 :: d229 :: d230 :: d231 :: d232 :: d233 :: d234 :: d235 :: d236 :: d237 :: d238 :: d239 :: d240 :: d241 :: d242 :: d243 :: d244 :: d245 :: d246 :: d247 :: d248 :: d249 :: d250 :: d251 :: d252 :: d253 :: d254 :: d255 :: d256 :: d257 :: d258 :: d259 :: d260 :: d261 :: d262 :: d263 :: d264 :: d265 :: d266 :: d267 :: d268 :: d269 :: d270 :: d271 :: d272 :: d273 :: d274 :: d275 :: d276 :: d277 :: d278 :: d279 :: d280 :: d281 :: d282 :: d283 :: d284 :: d285 :: d286 :: d287 :: d288 :: d289 :: d290 :: d291 :: d292 :: d293 :: d294 :: d295 :: d296 :: d297 :: d298 :: d299 :: d300 :: d301 :: d302 :: d303 :: d304 :: d305 :: d306 :: d307 :: d308 :: d309 :: d310 :: d311 :: d312 :: d313 :: d314 :: d315 :: d316 :: d317 :: d318 :: d319 :: d320 :: d321 :: d322 :: d323 :: d324 :: d325 :: d326 :: d327 :: d328 :: d329 :: d330 :: d331 :: d332 :: d333 :: d334 :: d335 :: d336 :: d337 :: d338 :: d339 :: d340 :: d341 :: d342 :: d343 :: d344 :: d345 :: d346 :: d347 :: d348 :: d349 :: d350 :: d351 :: d352 :: d353 :: d354 :: d355 :: d356 :: d357 :: d358 :: d359 :: d360 :: d361 :: d362 :: d363 :: d364 :: d365 :: d366 :: []), []⟩ V)
    (hn : n ≤ 4096) (hph : ph ≤ 4096) (H : OutsV 0 W.heap.size W a0 n o s0) (hl : ∀ i, i < n → (o i).nl ≤ 1048576) (hB : Below w.heap.size w W) (hsm : ∀ k, k ≤ n → Small o k) (hfit : Fit o n) (hsf : ∀ i, i < n → (o i).sf = true → cS = true) (hnl : wP = true → 0 < ph → ∀ i, i < n → 0 < (o i).nl) :
    Code.wp Try.prog (headS (dropS 8 (Try.f6.body.getD .skip))) (Exit.then K (Ends w)) ⟨List.toArray ((.slice a0 n c0) :: (.bool cS) :: (.bool wP) :: (.int .i64 (ph : Int)) :: c4 :: c5 :: c6 :: c7 :: c8 :: c9 :: c10 :: c11 :: c12 :: c13 :: c14 :: c15 :: c16 :: c17 :: c18 :: c19 :: c20 :: c21 :: c22 :: c23 :: c24 :: c25 :: c26 :: c27 :: c28 :: c29 :: c30 :: c31 :: c32 :: c33 :: c34 :: c35 :: c36 :: c37 :: c38 :: c39 :: c40 :: c41 :: c42 :: c43 :: c44 :: c45 :: c46 :: c47 :: c48 :: c49 :: c50 :: c51 :: c52 :: c53 :: c54 :: c55 :: c56 :: c57 :: c58 :: c59 :: c60 :: c61 :: c62 :: c63 :: c64 :: c65 :: c66 :: c67 :: c68 :: c69 :: c70 :: c71 :: c72 :: c73 :: c74 :: c75 :: c76 :: c77 :: c78 :: c79 :: c80 :: c81 :: c82 :: c83 :: c84 :: c85 :: c86 :: c87 :: c88 :: c89 :: c90 :: c91 :: c92 :: c93 :: c94 :: c95 :: c96 :: c97 :: c98 :: c99 :: c100 :: c101 :: c102 :: c103 :: c104 :: c105 :: c106 :: c107 :: c108 :: c109 :: c110 :: c111 :: c112 :: c113 :: c114 :: c115 :: c116 :: c117 :: c118 :: c119 :: c120 :: c121 :: c122 :: c123 :: c124 :: c125 :: c126 :: c127 :: c128 :: c129 :: c130 :: c131 :: c132 :: c133 :: c134 :: c135 :: c136 :: c137 :: c138 :: c139 :: c140 :: c141 :: c142 :: c143 :: c144 :: c145 :: c146 :: c147 :: c148 :: c149 :: c150 :: c151 :: c152 :: c153 :: c154 :: c155 :: c156 :: c157 :: c158 :: c159 :: c160 :: c161 :: c162 :: c163 :: c164 :: c165 :: c166 :: c167 :: c168 :: c169 :: c170 :: c171 :: c172 :: c173 :: c174 :: c175 :: c176 :: c177 :: c178 :: c179 :: c180 :: c181 :: c182 :: c183 :: c184 :: c185 :: c186 :: c187 :: c188 :: c189 :: c190 :: c191 :: c192 :: c193 :: c194 :: c195 :: c196 :: c197 :: c198 :: c199 :: c200 :: c201 :: c202 :: c203 :: c204 :: c205 :: c206 :: c207 :: c208 :: c209 :: c210 :: c211 :: c212 :: c213 :: c214 :: c215 :: c216 :: c217 :: c218 :: c219 :: c220 :: c221 :: c222 :: c223 :: c224 :: c225 :: c226 :: c227 :: c228 :: c229 :: c230 :: c231 :: c232 :: c233 :: c234 :: c235 :: c236 :: c237 :: c238 :: c239 :: c240 :: c241 :: c242 :: c243 :: c244 :: c245 :: c246 :: c247 :: c248 :: c249 :: c250 :: c251 :: c252 :: c253 :: c254 :: c255 :: c256 :: c257 :: c258 :: c259 :: c260 :: c261 :: c262 :: c263 :: c264 :: c265 :: c266 :: c267 :: c268 :: c269 :: c270 :: c271 :: c272 :: c273 :: c274 :: c275 :: c276 :: c277 :: c278 :: c279 :: c280 :: c281 :: c282 :: c283 :: c284 :: c285 :: c286 :: c287 :: c288 :: c289 :: c290 :: c291 :: c292 :: c293 :: c294 :: c295 :: c296 :: c297 :: c298 :: c299 :: c300 :: c301 :: c302 :: c303 :: c304 :: c305 :: c306 :: c307 :: c308 :: c309 :: c310 :: c311 :: c312 :: c313 :: c314 :: c315 :: c316 :: c317 :: c318 :: c319 :: c320 :: c321 :: c322 :: c323 :: c324 :: c325 :: c326 :: c327 :: c328 :: c329 :: c330 :: c331 :: c332 :: c333 :: c334 :: c335 :: c336 :: c337 :: c338 :: c339 :: c340 :: c341 :: c342 :: c343 :: c344 :: c345 :: c346 :: c347 :: c348 :: c349 :: c350 :: c351 :: c352 :: c353 :: c354 :: c355 :: c356 :: c357 :: c358 :: c359 :: c360 :: c361 :: c362 :: c363 :: c364 :: c365 :: c366 :: []), []⟩ W := by
  show Code.wp Try.prog (.region _ _ _) _ _ _
  replace hK : ∀ a w', Code.wp Try.prog (.seq _ _) (Ends w) a w' → K a w' := hK
  have HX := hid0 hnext
  clear hnext
  unfold Ends at hK ⊢
  have C19 := cloneOuts_any a0 n c0 o s0 W (by omega) H hl
  clear H
  go_upto_region 28 with (first | (go_at_call 19; refine C19.mono ?_; rintro e W1 ⟨⟨a, c, s, rfl, HO, hob⟩, hb1⟩))
  have hB1 : Below w.heap.size w W1 := hB.trans (hb1.mono hB.size)
  clear C19 hB hb1
  have G1 := hid0 (And.intro HO (And.intro hob hB1))
  clear HO hob hB1
  have hthZ : (W1.alloc (.cells (zcells 0 none none 0 0 0 0 0 0 0 0 0 0 0) 44)).there W1.heap.size 0 (zc0 n none none).size := (has_new W1 44 _).there 0 _ (by simp [zcells, zc0])
  unfold zcells at hthZ
  obtain ⟨ZC, hZC⟩ : ∃ ZC, zc0 n none none = ZC := ⟨_, rfl⟩
  obtain ⟨RC, hRC⟩ : ∃ RC, rcells n none none 0 0 0 0 0 0 0 0 = RC := ⟨_, rfl⟩
  have oneZ : ZC.all (·.oneCell') = true := by rw [← hZC]; exact z_one _ _ _ _ _ _ _ _ _ _ _ _ _ _
  have sZ : (Try.prog.info? 44).map (·.size) = some ZC.size := by rw [← hZC]; exact size44
  have b42 : ∀ V : World, (Instr.build 42 #[(3, .int .i64 (n : Int))]).run Try.prog V = .ok (.agg RC) V := fun V => by rw [← hRC]; exact build42 _ V
  have b44 : ∀ V : World, (Instr.build 44 #[(0, .agg RC)]).run Try.prog V = .ok (.agg ZC) V := fun V => by rw [← hRC, ← hZC]; exact build44 _ V
  rw [hZC] at hthZ
  have HZC := hid0 hZC
  clear hZC hRC
  go_upto_if 129 with (first | (refine wpList_build rfl 42 #[(3, .tmp 126)] rfl #[(3, .int .i64 (n : Int))] (by kernel_rfl) (.agg RC) (b42 _) ?_) | (refine wpList_build rfl 44 #[(0, .tmp 127)] rfl #[(0, .agg RC)] (by kernel_rfl) (.agg ZC) (b44 _) ?_) | (refine wpList_store_mid rfl 44 (.tmp 14) (.tmp 128) rfl W1.heap.size 0 ZC rfl rfl hthZ sZ oneZ ?_))
  rw [← HZC.out]
  clear b42 b44
  have T1 : Below W1.heap.size W1 ((W1.alloc (.cells (zcells 0 none none 0 0 0 0 0 0 0 0 0 0 0) 44)).setCells W1.heap.size 0 (zc0 n none none).toList) := Below_setCells ((Below.refl _ _).alloc (Nat.le_refl _) _) (Nat.le_refl _) _ _
  refine gen_world (fun V => Has V W1.heap.size 44 (zc0 n none none) ∧ Below W1.heap.size W1 V) ⟨(has_new W1 44 (zcells 0 none none 0 0 0 0 0 0 0 0 0 0 0)).setAll (zc0 n none none) rfl, T1⟩ ?_
  clear T1 hthZ oneZ sZ HZC
  rintro V ⟨HZ, kV⟩
  obtain ⟨Z, hZ⟩ : ∃ Z, Z = W1.heap.size := ⟨_, rfl⟩
  rw [← hZ] at HZ kV ⊢
  have HZ0 := hid0 hZ
  clear hZ
  go_cut [] from 34 (fun wx => ∃ S, Has wx Z 44 (zc0 n (if cS then some ⟨S, 0, none⟩ else none) none) ∧ (cS = true → Has wx S 3 #[.int .i64 0] ∧ Z < S) ∧ Below Z W1 wx ∧ Z < wx.heap.size)
  case first => as_aux_lemma =>
    clear HX hsf
    have hzl := HZ.lt
    cases cS
    · have GG := hid0 (show ∃ S, Has V Z 44 (zc0 n (if false = true then some ⟨S, 0, none⟩ else none) none) ∧ (false = true → Has V S 3 #[.int .i64 0] ∧ Z < S) ∧ Below Z W1 V ∧ Z < V.heap.size from ⟨0, HZ, fun h => (by cases h), kV, hzl⟩)
      clear HZ kV
      go_wp2
      go_meet
      case rel => exact GG.out
    · have q1 := HZ.cell 14 (.pointer none) rfl
      have q2 := HZ.frozen 14
      have hne : ¬ Z = V.heap.size := by omega
      have GG := hid0 (show ∃ S, Has ((V.setCell ⟨Z, 14, none⟩ (.pointer (some ⟨V.heap.size, 0, none⟩))).alloc (.cells #[.int .i64 0] 3)) Z 44 (zc0 n (if true = true then some ⟨S, 0, none⟩ else none) none) ∧ (true = true → Has ((V.setCell ⟨Z, 14, none⟩ (.pointer (some ⟨V.heap.size, 0, none⟩))).alloc (.cells #[.int .i64 0] 3)) S 3 #[.int .i64 0] ∧ Z < S) ∧ Below Z W1 ((V.setCell ⟨Z, 14, none⟩ (.pointer (some ⟨V.heap.size, 0, none⟩))).alloc (.cells #[.int .i64 0] 3)) ∧ Z < ((V.setCell ⟨Z, 14, none⟩ (.pointer (some ⟨V.heap.size, 0, none⟩))).alloc (.cells #[.int .i64 0] 3)).heap.size from
        ⟨V.heap.size, (HZ.set 14 _ _ rfl).alloc _, fun _ => ⟨has_at (by simp), hzl⟩, (kV.setCell (p := ⟨Z, 14, none⟩) (Nat.le_refl _) _).alloc (by simp; omega) _, by simp; omega⟩)
      clear HZ kV
      go_wp2
      go_meet
      case rel => exact GG.out
  clear HZ kV
  obtain ⟨S, HZ, HS, kV, hZV⟩ := hcut
  go_upto_if 133 with fail
  go_cut [] from 34 (fun wx => ∃ S PR NR, Has wx Z 44 (zc0 n (if cS then some ⟨S, 0, none⟩ else none) (if wP then some ⟨PR, 0, none⟩ else none)) ∧ (cS = true → Has wx S 3 #[.int .i64 0] ∧ Z < S) ∧ (wP = true → Has wx PR 56 (prc NR ph 0 0 0) ∧ wx.rowIs NR 3 ph (fun _ => .int .i64 0) ∧ Z < PR ∧ Z < NR ∧ PR ≠ NR ∧ (cS = true → S ≠ PR ∧ S ≠ NR)) ∧ Below Z W1 wx ∧ Z < wx.heap.size)
  case first => as_aux_lemma =>
    clear HX hnl
    cases wP
    · have GG := hid0 (show ∃ S PR NR, Has wc Z 44 (zc0 n (if cS then some ⟨S, 0, none⟩ else none) (if false = true then some ⟨PR, 0, none⟩ else none)) ∧ (cS = true → Has wc S 3 #[.int .i64 0] ∧ Z < S) ∧ (false = true → Has wc PR 56 (prc NR ph 0 0 0) ∧ wc.rowIs NR 3 ph (fun _ => .int .i64 0) ∧ Z < PR ∧ Z < NR ∧ PR ≠ NR ∧ (cS = true → S ≠ PR ∧ S ≠ NR)) ∧ Below Z W1 wc ∧ Z < wc.heap.size from ⟨S, 0, 0, HZ, HS, fun h => (by cases h), kV, hZV⟩)
      clear HZ HS kV
      go_wp2
      go_meet
      case rel => exact GG.out
    · have hmk := run_make_row' (P := Try.prog) 54 3 (.int .i64 0) 8 Try.underlying54 info3 rfl .i64 .i64 ph (by omega) (by omega)
      have q1 := HZ.cell 19 (.pointer none) rfl
      have q2 := HZ.frozen 19
      have hne : ¬ Z = wc.heap.size := by omega
      have hne2 : ¬ Z = wc.heap.size + 1 := by omega
      have hS1 : cS = true → S < wc.heap.size := fun h => (HS h).1.lt
      obtain ⟨WF, hWF⟩ : ∃ WF, WF = ((wc.setCell ⟨Z, 19, none⟩ (.pointer (some ⟨wc.heap.size + 1, 0, none⟩))).alloc (.cells (madeCells #[.int .i64 0] ph) 3)).alloc (.cells (prc wc.heap.size ph 0 0 0) 56) := ⟨_, rfl⟩
      have GG := hid0 (show ∃ S PR NR, Has WF Z 44 (zc0 n (if cS then some ⟨S, 0, none⟩ else none) (if true = true then some ⟨PR, 0, none⟩ else none)) ∧ (cS = true → Has WF S 3 #[.int .i64 0] ∧ Z < S) ∧ (true = true → Has WF PR 56 (prc NR ph 0 0 0) ∧ WF.rowIs NR 3 ph (fun _ => .int .i64 0) ∧ Z < PR ∧ Z < NR ∧ PR ≠ NR ∧ (cS = true → S ≠ PR ∧ S ≠ NR)) ∧ Below Z W1 WF ∧ Z < WF.heap.size from by
        rw [hWF]
        refine ⟨S, wc.heap.size + 1, wc.heap.size, ((HZ.set 19 _ _ rfl).alloc _).alloc _, fun h => ⟨(((HS h).1.setOther (a := ⟨Z, 19, none⟩) (by have := (HS h).2; simp; omega) _).alloc _).alloc _, (HS h).2⟩, fun _ => ⟨has_at (by simp), (World.rowIs.alloc (by simpa using World.rowIs_made (wc.setCell ⟨Z, 19, none⟩ (.pointer (some ⟨wc.heap.size + 1, 0, none⟩))) (.int .i64 0) ph 3) _), by omega, by omega, by omega, fun h => ⟨by have := hS1 h; omega, by have := hS1 h; omega⟩⟩, ((kV.setCell (p := ⟨Z, 19, none⟩) (Nat.le_refl _) _).alloc (by simp; omega) _).alloc (by simp; omega) _, by simp; omega⟩)
      rw [hWF] at GG
      clear HZ HS kV hWF
      go_wp2
      go_meet
      case rel => exact GG.out
  clear HZ HS kV
  obtain ⟨S, PR, NR, HZ, HS, HP, kV, hZV⟩ := hcut
  have hZ := HZ0.out
  clear HZ0
  obtain ⟨x, hx⟩ : ∃ x : Zx, x = ⟨Z, S, PR, NR, W1.heap.size, ph, cS, wP, n⟩ := ⟨_, rfl⟩
  have ok : x.Ok := by
    rw [hx]
    exact ⟨fun h => by have := (HS h).2; show Z ≠ S; omega, fun h => by have := (HP h).2.2.1; show Z ≠ PR; omega, fun h => by have := (HP h).2.2.2.1; show Z ≠ NR; omega, fun h h' => ((HP h').2.2.2.2.2 h).1, fun h h' => ((HP h').2.2.2.2.2 h).2, fun h => (HP h).2.2.2.2.1, by show W1.heap.size ≤ Z; omega, fun h => by have := (HS h).2; show W1.heap.size ≤ S; omega, fun h => by have := (HP h).2.2.1; show W1.heap.size ≤ PR; omega, fun h => by have := (HP h).2.2.2.1; show W1.heap.size ≤ NR; omega, hph⟩
  have st0 : x.St 0 0 (tot o 0) wc := by
    rw [hx]
    refine ⟨?_, fun h => (HS h).1, fun h => (HP h).1, fun h => (HP h).2.1⟩
    have e : (Zx.zc ⟨Z, S, PR, NR, W1.heap.size, ph, cS, wP, n⟩ 0 (tot o 0)) = zc0 n (if cS then some ⟨S, 0, none⟩ else none) (if wP then some ⟨PR, 0, none⟩ else none) := by
      unfold Zx.zc zc0 Zx.sp Zx.pp
      simp [tot, tot0]
    show Has wc Z 44 _
    rw [e]
    exact HZ
  have xB : x.B = W1.heap.size := by rw [hx]
  have xZ : x.Z = Z := by rw [hx]
  have xS : x.hasS = cS := by rw [hx]
  have xP : x.hasP = wP := by rw [hx]
  have xph : x.ph = ph := by rw [hx]
  have xi : x.inst = n := by rw [hx]
  have HXB := hid0 xB
  rw [← xZ]
  have kB : Below x.B W1 wc := by rw [xB, ← hZ]; exact kV
  have G2 := hid0 (And.intro st0 kB)
  have HXX := hid0 (And.intro xS (And.intro xP (And.intro xph xi)))
  have hZV' : x.B ≤ wc.heap.size := by omega
  clear HZ HS HP kV st0 kB hx xB xZ xS xP xph xi hZ hZV
  go_wp2
  go_loopw [15] (fun i wr => ∃ k : Nat, k ≤ n ∧ i = .int .i64 k ∧ x.St 0 0 (tot o k) wr ∧ Below x.B W1 wr ∧ x.B ≤ wr.heap.size) (fun i _ => n - (intOf i).toNat)
  case atStart => exact ⟨0, Nat.zero_le _, rfl, G2.out.1, G2.out.2, hZV'⟩
  case round =>
    clear G2 hZV'
    obtain ⟨k, hk, rfl, st, kB, hBw⟩ := hrel
    by_cases hlt : k < n
    · as_aux_lemma =>
      clear HX
      obtain ⟨b, off, ha, HOO⟩ : ∃ b off, a = some ⟨b, off, none⟩ ∧ Outs 0 W1.heap.size W1 b off n o s := by
        rcases G1.out.1 with h | h
        · omega
        · exact h
      have hbB := G1.out.2.1 b off ha
      subst ha
      have HOr : Outs 0 x.B wr b off n o s := by
        rw [HXB.out] at kB ⊢
        exact HOO.kept (fun _ => kB.block b hbB) (fun q _ hq => kB.block q hq)
      have hix := index51 b off n c k hlt
      obtain ⟨OC, hOC'⟩ : ∃ OC, oc (o k) (sv (s k)) = OC := ⟨_, rfl⟩
      have hr : wr.rangeAt b (off + k * 11) OC.toList := by rw [← hOC']; exact HOr.row k hlt
      have hsO' : (Try.prog.info? 34).map (·.size) = some OC.toList.length := by rw [← hOC']; exact size34
      have C16 : Calls Try.prog 16 #[.agg OC] wr fun e w' => (∃ OC', Hid (∃ a' n' c', OC' = oc (o k) (.slice a' n' c') ∧ Bools wr.heap.size w'.heap.size w' (.slice a' n' c') (o k).nl (o k).na) ∧ e = .returned (.agg OC')) ∧ Hid (Below wr.heap.size wr w') := by
        rw [← hOC']
        refine (toOutcome_any (o k) (s k).1 (s k).2.1 (s k).2.2 wr ((HOr.bl k hlt).mono (Nat.le_refl _) hBw) (hl k hlt)).mono ?_
        rintro e w' ⟨⟨a', n', c', rfl, h1⟩, h2⟩
        exact ⟨⟨_, hid0 ⟨a', n', c', rfl, h1⟩, rfl⟩, hid0 h2⟩
      have hoo : OutOk x (o k) := ⟨fun h => by rw [HXX.out.1]; exact hsf k hlt h, fun h1 h2 => hnl (by rw [← HXX.out.2.1]; exact h1) (by rw [← HXX.out.2.2.1]; exact h2) k hlt, hl k hlt, hfit.lr k hlt, hfit.p1 k hlt, hfit.p2 k hlt⟩
      have C15 : ∀ (OC' : Array Value) (V2 : World), Hid (∃ a' n' c', OC' = oc (o k) (.slice a' n' c') ∧ Bools wr.heap.size V2.heap.size V2 (.slice a' n' c') (o k).nl (o k).na) → Hid (Below wr.heap.size wr V2) → Calls Try.prog 15 #[.pointer (some ⟨x.Z, 0, none⟩), .agg OC'] V2 fun e w' => e = .returned (.tuple #[]) ∧ Hid (x.St 0 0 (tot o (k + 1)) w' ∧ Below x.B W1 w' ∧ x.B ≤ w'.heap.size) := by
        rintro OC' V2 h1 h2
        obtain ⟨a', n', c', rfl, hb⟩ := h1.out
        have h2' := h2.out
        refine (zzAdd_any x ok 0 0 (tot o k) ((hsm k (by omega)).calm (by omega)) (o k) hoo a' n' c' V2 (st.below h2') (by have := h2'.size; omega) wr.heap.size V2.heap.size hb (Nat.le_refl _) (fun h => (st.s h).lt) (fun h => (st.p h).lt) (fun h => (st.r h).lt)).mono ?_
        rintro e w' ⟨rfl, h3, h4⟩
        exact ⟨rfl, hid0 ⟨h3, (kB.trans (h2'.mono hBw)).trans h4, by have := h4.size; have := h2'.size; omega⟩⟩
      clear HOO HOr hOC' st kB hoo
      go_wp2_with (first | (refine wpList_load_mid rfl 34 (.tmp 147) rfl b (off + k * 11) rfl OC.toList _ hr Try.underlying34 rfl hsO' ?_; rw [Array.toArray_toList]) | (go_at_call 16; refine C16.mono ?_; rintro e V2 ⟨⟨OC', g1, rfl⟩, g2⟩) | (go_at_call 15; refine (C15 OC' _ g1 g2).mono ?_; rintro e V3 ⟨rfl, g3⟩))
      go_roundw
      case rel => exact ⟨k + 1, by omega, by go_num, g3.out.1, g3.out.2.1, g3.out.2.2⟩
      case measure => simp [intOf]; omega
    · as_aux_lemma =>
      have e : k = n := by omega
      subst e
      have bw : Below w.heap.size w wr := G1.out.2.2.trans (kB.mono (by rw [HXB.out]; exact G1.out.2.2.size))
      have HOF : OutsV 0 x.B wr a k o s := by
        rw [HXB.out] at kB ⊢
        rcases G1.out.1 with h0 | ⟨b, off, e, h⟩
        · exact .inl h0
        refine .inr ⟨b, off, e, ?_⟩
        exact h.kept (fun _ => kB.block b (G1.out.2.1 b off e)) (fun q _ hq => kB.block q hq)
      have GF := hid0 (And.intro ok (And.intro HXX.out.1 (And.intro HXX.out.2.1 (And.intro HXX.out.2.2.1 (And.intro HXX.out.2.2.2 (And.intro (show w.heap.size ≤ x.B by rw [HXB.out]; exact G1.out.2.2.size) (And.intro st (And.intro hBw (And.intro HOF (And.intro (show ∀ b off, a = some ⟨b, off, none⟩ → b < x.B by rw [HXB.out]; exact G1.out.2.1) bw))))))))))
      clear st kB HOF bw G1
      go_upto_region 38 with fail
      rename_i K9 hK9
      exact HX.out _ _ _ _ _ _ _ _ _ _ _ _ _ _ _ _ _ _ _ _ _ _ _ _ _ _ _ _ _ _ _ _ _ _ _ _ _ _ _ _ _ _ _ _ _ _ _ _ _ _ _ _ _ _ _ _ _ _ _ _ _ _ _ _ _ _ _ _ _ _ _ _ _ _ _ _ _ _ _ _ _ _ _ _ _ _ _ _ _ _ _ _ _ _ _ _ _ _ _ _ _ _ _ _ _ _ _ _ _ _ _ _ _ _ _ _ _ _ _ _ _ _ _ _ _ _ _ _ _ _ _ _ _ _ _ _ _ _ _ _ _ _ _ _ _ _ _ _ _ _ _ _ _ _ _ _ _ _ _ _ _ _ _ _ _ _ _ _ _ _ _ _ _ _ _ _ _ _ _ _ _ _ _ _ _ _ _ _ _ _ _ _ _ _ _ _ _ _ _ _ _ _ _ _ _ _ _ _ _ _ _ _ _ _ _ _ _ _ _ _ _ _ _ _ _ _ _ _ _ _ _ _ _ _ _ _ _ _ _ _ _ _ _ _ _ _ _ _ _ _ _ _ _ _ _ _ _ _ _ _ _ _ _ _ _ _ _ _ _ _ _ _ _ _ _ _ _ _ _ _ _ _ _ _ _ _ _ _ _ _ _ _ _ _ _ _ _ _ _ _ _ _ _ _ _ _ _ _ _ _ _ _ _ _ _ _ _ _ _ _ _ _ _ _ _ _ _ _ _ _ _ _ _ _ _ _ _ _ _ _ _ _ _ _ _ _ _ _ _ _ _ x a c s wr K9 hK9 GF.out
end Go.Proofs.Qxb6601481a
