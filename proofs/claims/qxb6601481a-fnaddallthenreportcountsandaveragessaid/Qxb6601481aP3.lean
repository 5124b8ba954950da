/-
  SEAT b6601481a: THE LAW (6), its third part.
-/
import Derived.Test.Qxb6601481aLaw0
import Derived.BigQuiet
namespace Go.Proofs.Qxb6601481a
open Go.RowKit Go.Deep
set_option linter.unusedVariables false
set_option linter.unusedSimpArgs false

/-- the want's state in a round of the fourth loop -/
structure W4 (V : World) (WT SF OB : Nat) (OC cw : Array Value) (sf : Int) (wx : World) : Prop where
  w : Has wx WT 42 cw
  s : Has wx SF 3 #[.int .i64 sf]
  o : Has wx OB 34 OC
  k : Kept (fun b => b = WT ∨ b = SF) V wx
section
variable {V wx : World} {WT SF OB : Nat} {OC cw : Array Value} {sf : Int}
theorem W4.drew (h : W4 V WT SF OB OC cw sf wx) : W4 V WT SF OB OC cw sf wx.drew := ⟨h.w, h.s, h.o, h.k.drew⟩
theorem W4.setW (h : W4 V WT SF OB OC cw sf wx) (h1 : SF ≠ WT) (h2 : OB ≠ WT) (i : Nat) (v : Value) (cw' : Array Value) (e : cw.setIfInBounds i v = cw') : W4 V WT SF OB OC cw' sf (wx.setCell ⟨WT, i, none⟩ v) :=
  ⟨h.w.set i v _ e, h.s.setOther h1 _, h.o.setOther h2 _, h.k.setCell (.inl (.inl rfl)) _⟩
theorem W4.setS (h : W4 V WT SF OB OC cw sf wx) (h1 : WT ≠ SF) (h2 : OB ≠ SF) (sf' : Int) : W4 V WT SF OB OC cw sf' (wx.setCell ⟨SF, 0, none⟩ (.int .i64 sf')) :=
  ⟨h.w.setOther h1 _, h.s.set 0 _ _ rfl, h.o.setOther h2 _, h.k.setCell (.inl (.inr rfl)) _⟩
end
def wc4 (n : Nat) (und dis val ones rmax ms mb : Int) : Array Value := rcells n none none 0 und dis val ones rmax ms mb
def wcT (n : Nat) (t : Tot) : Array Value := wc4 n t.und t.dis t.val t.ones t.rmax t.ms t.mb

set_option maxHeartbeats 8000000 in
set_option maxRecDepth 100000 in
theorem p3 {c1 c2 c3 c4 c5 c6 c7 c8 c9 c10 c11 c12 c15 c16 c17 c18 c19 c20 c21 c22 c23 c24 c25 c26 c27 c28 c29 c30 c31 c32 c33 c34 c35 c36 c37 c38 c39 c40 c41 c42 c43 c44 c45 c46 c47 c48 c49 c50 c51 c52 c53 c54 c55 c56 c57 c58 c59 c60 c61 c62 c63 c64 c65 c66 c67 c68 c69 c70 c71 c72 c73 c74 c75 c76 c77 c78 c79 c80 c81 c82 c83 c84 c85 c86 c87 c88 c89 c90 c91 c92 c93 c94 c95 c96 c97 c98 c99 c100 c101 c102 c103 c104 c105 c106 c107 c108 c109 c110 c111 c112 c113 c114 c115 c116 c117 c118 c119 c120 c121 c122 c123 c124 c125 c126 c127 c128 c129 c130 c131 c132 c133 c134 c135 c136 c137 c138 c139 c140 c141 c142 c143 c144 c145 c146 c147 c148 c149 c150 c151 c152 c153 c154 c155 c156 c157 c158 c159 c160 c161 c162 c163 c164 c165 c166 c167 c168 c169 c170 c171 c172 c173 c174 c175 c176 c177 c178 c179 c180 c181 c182 c183 c184 c185 c186 c187 c188 c189 c190 c191 c192 c193 c194 c195 c196 c197 c198 c199 c200 c201 c202 c203 c204 c205 c206 c207 c208 c209 c210 c211 c212 c213 c214 c215 c216 c217 c218 c219 c220 c221 c222 c223 c224 c225 c226 c227 c228 c229 c230 c231 c232 c233 c234 c235 c236 c237 c238 c239 c240 c241 c242 c243 c244 c245 c246 c247 c248 c249 c250 c251 c252 c253 c254 c255 c256 c257 c258 c259 c260 c261 c262 c263 c264 c265 c266 c267 c268 c269 c270 c271 c272 c273 c274 c275 c276 c277 c278 c279 c280 c281 c282 c283 c284 c285 c286 c287 c288 c289 c290 c291 c292 c293 c294 c295 c296 c297 c298 c299 c300 c301 c302 c303 c304 c305 c306 c307 c308 c309 c310 c311 c312 c313 c314 c315 c316 c317 c318 c319 c320 c321 c322 c323 c324 c325 c326 c327 c328 c329 c330 c331 c332 c333 c334 c335 c336 c337 c338 c339 c340 c341 c342 c343 c344 c345 c346 c347 c348 c349 c350 c351 c352 c353 c354 c355 c356 c357 c358 c359 c360 c361 c362 c363 c364 c365 c366 : Value} (x : Zx) (ok : x.Ok) (n c : Nat) (a : Option Addr) (o : Nat → Out) (s : Nat → Option Addr × Nat × Nat) (mean' : Nat) (p : Nat → Prop) (w W : World) (K : Act → World → Prop) (hK : ∀ a w', Code.wp Try.prog (dropS 15 (Try.f6.body.getD .skip)) (Ends w) a w' → K a w')
    (hnext : ∀ (d15 d27 d28 d29 d30 d31 d32 d33 d34 d35 d36 d37 d38 d39 d40 d41 d42 d43 d44 d45 d46 d47 d48 d49 d50 d51 d52 d53 d54 d55 d56 d57 d58 d59 d60 d61 d62 d63 d64 d65 d66 d67 d68 d69 d70 d71 d72 d73 d74 d75 d76 d77 d78 d79 d80 d81 d82 d83 d84 d85 d86 d87 d88 d89 d90 d91 d92 d93 d94 d95 d96 d97 d98 d99 d100 d101 d102 d103 d104 d105 d106 d107 d108 d109 d110 d111 d112 d113 d114 d115 d116 d117 d118 d119 d120 d121 d122 d123 d124 d125 d126 d127 d128 d129 d130 d131 d132 d133 d134 d135 d136 d137 d138 d139 d140 d141 d142 d143 d144 d145 d146 d147 d148 d149 d150 d151 d152 d153 d154 d155 d156 d157 d158 d159 d160 d161 d162 d163 d164 d165 d166 d167 d168 d169 d170 d171 d172 d173 d174 d175 d176 d177 d178 d179 d180 d181 d182 d183 d184 d185 d186 d187 d188 d189 d190 d191 d192 d193 d194 d195 d196 d197 d198 d199 d200 d201 d202 d203 d204 d205 d206 d207 d208 d209 d210 d211 d212 d213 d214 d215 d216 d217 d218 d219 d220 d221 d222 d223 d224 d225 d226 d227 d228 d229 d230 d231 d232 d233 d234 d235 d236 d237 d238 d239 d240 d241 d242 d243 d244 d245 d246 d247 d248 d249 d250 d251 d252 d253 d254 d255 d256 d257 d258 d259 d260 d261 d262 d263 d264 d265 d266 d267 d268 d269 d270 d271 d272 d273 d274 d275 d276 d277 d278 d279 d280 d281 d282 d283 d284 d285 d286 d287 d288 d289 d290 d291 d292 d293 d294 d295 d296 d297 d298 d299 d300 d301 d302 d303 d304 d305 d306 d307 d308 d309 d310 d311 d312 d313 d314 d315 d316 d317 d318 d319 d320 d321 d322 d323 d324 d325 d326 d327 d328 d329 d330 d331 d332 d333 d334 d335 d336 d337 d338 d339 d340 d341 d342 d343 d344 d345 d346 d347 d348 d349 d350 d351 d352 d353 d354 d355 d356 d357 d358 d359 d360 d361 d362 d363 d364 d365 d366 : Value) (RP WT SF pm' : Nat) (V : World) (K : Act → World → Prop), (∀ a w', Code.wp Try.prog (dropS 26 (Try.f6.body.getD .skip)) (Ends w) a w' → K a w') → (x.St mean' pm' (tot o n) V ∧ (x.hasP = true → p pm') ∧ Has V RP 42 (x.rc mean' (tot o n)) ∧ Has V WT 42 (wcT n (tot o n)) ∧ Has V SF 3 #[.int .i64 (tot o n).sf] ∧ OutsV 0 x.B V a n o s ∧ Below x.B W V ∧ W.heap.size ≤ RP ∧ RP < WT ∧ WT < SF ∧ SF < V.heap.size) → Code.wp Try.prog (headS (dropS 25 (Try.f6.body.getD .skip))) (Exit.then K (Ends w)) ⟨List.toArray ((.slice a n c) :: c1 :: c2 :: c3 :: c4 :: c5 :: c6 :: c7 :: c8 :: c9 :: c10 :: c11 :: c12 :: (.int .i64 (n : Int)) :: (.pointer (some ⟨x.Z, 0, none⟩)) :: d15 :: (.pointer (some ⟨RP, 0, none⟩)) :: (.pointer (some ⟨WT, 0, none⟩)) :: (.pointer (some ⟨SF, 0, none⟩)) :: (.int .i64 (tot o n).rs) :: (.int .i64 (tot o n).dec) :: (.int .i64 (rlo o n)) :: (.int .i64 (tot o n).ps) :: (.int .i64 (plo o n)) :: (.int .i64 (phi o n)) :: (.int .i64 (tot o n).cm) :: (.int .i64 (n : Int)) :: d27 :: d28 :: d29 :: d30 :: d31 :: d32 :: d33 :: d34 :: d35 :: d36 :: d37 :: d38 :: d39 :: d40 :: d41 :: d42 :: d43 :: d44 :: d45 :: d46 :: d47 :: d48 :: d49 :: d50 :: d51 :: d52 :: d53 :: d54 :: d55 :: d56 :: d57 :: d58 :: d59 :: d60 :: d61 :: d62 :: d63 :: d64 :: d65 :: d66 :: d67 :: d68 :: d69 :: d70 :: d71 :: d72 :: d73 :: d74 :: d75 :: d76 :: d77 :: d78 :: d79 :: d80 :: d81 :: d82 :: d83 :: d84 :: d85 :: d86 :: d87 :: d88 :: d89 :: d90 :: d91 :: d92 :: d93 :: d94 :: d95 :: d96 :: d97 :: d98 :: d99 :: d100 :: d101 :: d102 :: d103 :: d104 :: d105 :: d106 :: d107 :: d108 :: d109 :: d110 :: d111 :: d112 :: d113 :: d114 :: d115 :: d116 :: d117 :: d118 :: d119 :: d120 :: d121 :: d122 :: d123 :: d124 :: d125 :: d126 :: d127 :: d128 :: d129 :: d130 :: d131 :: d132 :: d133 :: d134 :: d135 :: d136 :: d137 :: d138 :: d139 :: d140 :: d141 :: d142 :: d143 :: d144 :: d145 :: d146 :: d147 :: d148 :: d149 :: d150 :: d151 :: d152 :: d153 :: d154 :: d155 :: d156 :: d157 :: d158 :: d159 :: d160 :: d161 :: d162 :: d163 :: d164 :: d165 :: d166 :: d167 :: d168 :: d169 :: d170 :: d171 :: d172 :: d173 :: d174 :: d175 :: d176 :: d177 :: d178 :: d179 :: d180 :: d181 :: d182 :: d183 :: d184 :: d185 :: d186 :: d187 :: d188 :: d189 :: d190 :: d191 :: d192 :: d193 :: d194 :: d195 :: d196 :: d197 :: d198 :: d199 :: d200 :: d201 :: d202 :: d203 :: d204 :: d205 :: d206 :: d207 :: d208 :: d209 :: d210 :: d211 :: d212 :: d213 :: d214 :: d215 :: d216 :: d217 :: d218 :: d219 :: d220 :: d221 :: d222 :: d223 :: d224 :: d225 :: d226 :: d227 :: d228 :: d229 :: d230 :: d231 :: d232 :: d233 :: d234 :: d235 :: d236 :: d237 :: d238 :: d239 :: d240 :: d241 :: d242 :: d243 :: d244 :: d245 :: d246 :: d247 :: d248 :: d249 :: d250 :: d251 :: d252 :: d253 :: d254 :: d255 :: d256 :: d257 :: d258 :: d259 :: d260 :: d261 :: d262 :: d263 :: d264 :: d265 :: d266 :: d267 :: d268 :: d269 :: d270 :: d271 :: d272 :: d273 :: d274 :: d275 :: d276 :: d277 :: d278 :: d279 :: d280 :: d281 :: d282 :: d283 :: d284 :: d285 :: d286 :: d287 :: d288 :: d289 :: d290 :: d291 :: d292 :: d293 :: d294 :: d295 :: d296 :: d297 :: d298 :: d299 :: d300 :: d301 :: d302 :: d303 :: d304 :: d305 :: d306 :: d307 :: d308 :: d309 :: d310 :: d311 :: d312 :: d313 :: d314 :: d315 :: d316 :: d317 :: d318 :: d319 :: d320 :: d321 :: d322 :: d323 :: d324 :: d325 :: d326 :: d327 :: d328 :: d329 :: d330 :: d331 :: d332 :: d333 :: d334 :: d335 :: d336 :: d337 :: d338 :: d339 :: d340 :: d341 :: d342 :: d343 :: d344 :: d345 :: d346 :: d347 :: d348 :: d349 :: d350 :: d351 :: d352 :: d353 :: d354 :: d355 :: d356 :: d357 :: d358 :: d359 :: d360 :: d361 :: d362 :: d363 :: d364 :: d365 :: d366 :: []), []⟩ V)
    (hst : x.St 0 0 (tot o n) W) (hinst : x.inst = n) (hBW : x.B ≤ W.heap.size) (HO : OutsV 0 x.B W a n o s) (hob : ∀ b off, a = some ⟨b, off, none⟩ → b < x.B) (hn : n ≤ 4096) (hsm : ∀ k, k ≤ n → Small o k) (hfit : Fit o n) (hm : MeanIs 0 (tot o n).rs (tot o n).dec mean') (hq : x.hasP = true → PhIs (tot o n).ps x.inst p) :
    Code.wp Try.prog (headS (dropS 14 (Try.f6.body.getD .skip))) (Exit.then K (Ends w)) ⟨List.toArray ((.slice a n c) :: c1 :: c2 :: c3 :: c4 :: c5 :: c6 :: c7 :: c8 :: c9 :: c10 :: c11 :: c12 :: (.int .i64 (n : Int)) :: (.pointer (some ⟨x.Z, 0, none⟩)) :: c15 :: c16 :: c17 :: c18 :: c19 :: c20 :: c21 :: c22 :: c23 :: c24 :: c25 :: c26 :: c27 :: c28 :: c29 :: c30 :: c31 :: c32 :: c33 :: c34 :: c35 :: c36 :: c37 :: c38 :: c39 :: c40 :: c41 :: c42 :: c43 :: c44 :: c45 :: c46 :: c47 :: c48 :: c49 :: c50 :: c51 :: c52 :: c53 :: c54 :: c55 :: c56 :: c57 :: c58 :: c59 :: c60 :: c61 :: c62 :: c63 :: c64 :: c65 :: c66 :: c67 :: c68 :: c69 :: c70 :: c71 :: c72 :: c73 :: c74 :: c75 :: c76 :: c77 :: c78 :: c79 :: c80 :: c81 :: c82 :: c83 :: c84 :: c85 :: c86 :: c87 :: c88 :: c89 :: c90 :: c91 :: c92 :: c93 :: c94 :: c95 :: c96 :: c97 :: c98 :: c99 :: c100 :: c101 :: c102 :: c103 :: c104 :: c105 :: c106 :: c107 :: c108 :: c109 :: c110 :: c111 :: c112 :: c113 :: c114 :: c115 :: c116 :: c117 :: c118 :: c119 :: c120 :: c121 :: c122 :: c123 :: c124 :: c125 :: c126 :: c127 :: c128 :: c129 :: c130 :: c131 :: c132 :: c133 :: c134 :: c135 :: c136 :: c137 :: c138 :: c139 :: c140 :: c141 :: c142 :: c143 :: c144 :: c145 :: c146 :: c147 :: c148 :: c149 :: c150 :: c151 :: c152 :: c153 :: c154 :: c155 :: c156 :: c157 :: c158 :: c159 :: c160 :: c161 :: c162 :: c163 :: c164 :: c165 :: c166 :: c167 :: c168 :: c169 :: c170 :: c171 :: c172 :: c173 :: c174 :: c175 :: c176 :: c177 :: c178 :: c179 :: c180 :: c181 :: c182 :: c183 :: c184 :: c185 :: c186 :: c187 :: c188 :: c189 :: c190 :: c191 :: c192 :: c193 :: c194 :: c195 :: c196 :: c197 :: c198 :: c199 :: c200 :: c201 :: c202 :: c203 :: c204 :: c205 :: c206 :: c207 :: c208 :: c209 :: c210 :: c211 :: c212 :: c213 :: c214 :: c215 :: c216 :: c217 :: c218 :: c219 :: c220 :: c221 :: c222 :: c223 :: c224 :: c225 :: c226 :: c227 :: c228 :: c229 :: c230 :: c231 :: c232 :: c233 :: c234 :: c235 :: c236 :: c237 :: c238 :: c239 :: c240 :: c241 :: c242 :: c243 :: c244 :: c245 :: c246 :: c247 :: c248 :: c249 :: c250 :: c251 :: c252 :: c253 :: c254 :: c255 :: c256 :: c257 :: c258 :: c259 :: c260 :: c261 :: c262 :: c263 :: c264 :: c265 :: c266 :: c267 :: c268 :: c269 :: c270 :: c271 :: c272 :: c273 :: c274 :: c275 :: c276 :: c277 :: c278 :: c279 :: c280 :: c281 :: c282 :: c283 :: c284 :: c285 :: c286 :: c287 :: c288 :: c289 :: c290 :: c291 :: c292 :: c293 :: c294 :: c295 :: c296 :: c297 :: c298 :: c299 :: c300 :: c301 :: c302 :: c303 :: c304 :: c305 :: c306 :: c307 :: c308 :: c309 :: c310 :: c311 :: c312 :: c313 :: c314 :: c315 :: c316 :: c317 :: c318 :: c319 :: c320 :: c321 :: c322 :: c323 :: c324 :: c325 :: c326 :: c327 :: c328 :: c329 :: c330 :: c331 :: c332 :: c333 :: c334 :: c335 :: c336 :: c337 :: c338 :: c339 :: c340 :: c341 :: c342 :: c343 :: c344 :: c345 :: c346 :: c347 :: c348 :: c349 :: c350 :: c351 :: c352 :: c353 :: c354 :: c355 :: c356 :: c357 :: c358 :: c359 :: c360 :: c361 :: c362 :: c363 :: c364 :: c365 :: c366 :: []), []⟩ W := by
  show Code.wp Try.prog (.region _ _ _) _ _ _
  replace hK : ∀ a w', Code.wp Try.prog (.seq _ _) (Ends w) a w' → K a w' := hK
  have HX := hid0 hnext
  clear hnext
  unfold Ends at hK ⊢
  have C20 := zzReport_any x ok 0 mean' 0 (tot o n) p W hst hBW hm hq
  have R1 : (x.rc mean' (tot o n)).all (·.oneCell') = true := r_one _ _ _ _ _ _ _ _ _ _ _
  have hs42 : (Try.prog.info? 42).map (·.size) = some (x.rc mean' (tot o n)).size := size42
  have hthR : ∀ V2 : World, (V2.alloc (.cells (rcells 0 none none 0 0 0 0 0 0 0 0) 42)).there V2.heap.size 0 (x.rc mean' (tot o n)).size := fun V2 => (has_new V2 42 _).there 0 _ (by simp [rcells, Zx.rc])
  unfold rcells at hthR
  clear hm hq
  go_upto_region 39 with (first | (go_at_call 20; refine C20.mono ?_; rintro e W1 ⟨rfl, ⟨pm', st1, hp1⟩, hb1⟩) | (refine wpList_store_mid rfl 42 (.tmp 16) (.tmp 151) rfl W1.heap.size 0 (x.rc mean' (tot o n)) rfl rfl (hthR W1) hs42 R1 ?_))
  have T1 : Below W1.heap.size W1 ((W1.alloc (.cells (rcells 0 none none 0 0 0 0 0 0 0 0) 42)).setCells W1.heap.size 0 (x.rc mean' (tot o n)).toList) := Below_setCells ((Below.refl _ _).alloc (Nat.le_refl _) _) (Nat.le_refl _) _ _
  refine gen_world (fun V3 => Has V3 W1.heap.size 42 (x.rc mean' (tot o n)) ∧ Below W1.heap.size W1 V3) ⟨(has_new W1 42 (rcells 0 none none 0 0 0 0 0 0 0 0)).setAll (x.rc mean' (tot o n)) rfl, T1⟩ ?_
  clear T1 hthR C20 R1 hs42
  rintro V1 ⟨HR1, k1⟩
  have hthW : (V1.alloc (.cells (rcells 0 none none 0 0 0 0 0 0 0 0) 42)).there V1.heap.size 0 (wc4 n 0 0 0 0 0 0 0).size := (has_new V1 42 _).there 0 _ (by simp [rcells, wc4])
  unfold rcells at hthW
  have oneW : (wc4 n 0 0 0 0 0 0 0).all (·.oneCell') = true := r_one _ _ _ _ _ _ _ _ _ _ _
  have sW : (Try.prog.info? 42).map (·.size) = some (wc4 n 0 0 0 0 0 0 0).size := size42
  go_frame
  go_upto_region 40 with (first | (refine wpList_store_mid rfl 42 (.tmp 17) (.tmp 153) rfl V1.heap.size 0 (wc4 n 0 0 0 0 0 0 0) rfl rfl hthW sW oneW ?_))
  have T1 : Below V1.heap.size V1 ((V1.alloc (.cells (rcells 0 none none 0 0 0 0 0 0 0 0) 42)).setCells V1.heap.size 0 (wc4 n 0 0 0 0 0 0 0).toList) := Below_setCells ((Below.refl _ _).alloc (Nat.le_refl _) _) (Nat.le_refl _) _ _
  refine gen_world (fun V3 => Has V3 V1.heap.size 42 (wc4 n 0 0 0 0 0 0 0) ∧ Below V1.heap.size V1 V3) ⟨(has_new V1 42 (rcells 0 none none 0 0 0 0 0 0 0 0)).setAll (wc4 n 0 0 0 0 0 0 0) rfl, T1⟩ ?_
  clear T1 hthW oneW sW
  rintro V2 ⟨HW2, k2⟩
  go_frame
  go_upto_region 41 with fail
  refine gen_world (fun V => Has V V2.heap.size 3 #[.int .i64 0] ∧ Below V2.heap.size V2 V) ⟨has_new V2 3 _, (Below.refl _ _).alloc (Nat.le_refl _) _⟩ ?_
  rintro V ⟨HS, k3⟩
  obtain ⟨RP, hRP⟩ : ∃ RP, RP = W1.heap.size := ⟨_, rfl⟩
  obtain ⟨WT, hWT⟩ : ∃ WT, WT = V1.heap.size := ⟨_, rfl⟩
  obtain ⟨SF, hSF⟩ : ∃ SF, SF = V2.heap.size := ⟨_, rfl⟩
  have a1 := HR1.lt
  have a2 := HW2.lt
  have a3 := HS.lt
  have a4 := hb1.size
  have kV : Below W1.heap.size W1 V := (k1.trans (k2.mono (by omega))).trans (k3.mono (by omega))
  have stV : x.St mean' pm' (tot o n) V := st1.below kV
  have HRV : Has V RP 42 (x.rc mean' (tot o n)) := hRP ▸ (HR1.of_block (k2.block _ a1)).of_block (k3.block _ (by omega))
  have HWV : Has V WT 42 (wc4 n 0 0 0 0 0 0 0) := hWT ▸ HW2.of_block (k3.block _ a2)
  have HSV : Has V SF 3 #[.int .i64 0] := hSF ▸ HS
  have hBV : Below x.B W V := hb1.trans (kV.mono (by omega))
  have hz1 : x.Z < W1.heap.size := st1.z.lt
  have hs1 : x.hasS = true → x.S < W1.heap.size := fun h => (st1.s h).lt
  have hpr1 : x.hasP = true → x.PR < W1.heap.size := fun h => (st1.p h).lt
  have hnr1 : x.hasP = true → x.NR < W1.heap.size := fun h => (st1.r h).lt
  have HOV : OutsV 0 x.B V a n o s := by
    rcases HO with h0 | ⟨b, off, e, h⟩
    · exact .inl h0
    · exact .inr ⟨b, off, e, h.kept (fun _ => hBV.block b (hob b off e)) (fun q _ hq => hBV.block q hq)⟩
  rw [← hRP, ← hWT, ← hSF]
  have bb1 : W.heap.size ≤ RP := by omega
  have bb2 : RP < WT := by omega
  have bb3 : WT < SF := by omega
  have bb4 : SF < V.heap.size := by omega
  have hs1' : x.hasS = true → x.S < RP := fun h => by have := hs1 h; omega
  have hpr1' : x.hasP = true → x.PR < RP := fun h => by have := hpr1 h; omega
  have hnr1' : x.hasP = true → x.NR < RP := fun h => by have := hnr1 h; omega
  have hz1' : x.Z < RP := by omega
  have hB1 : x.B ≤ RP := by omega
  clear hs1 hpr1 hnr1 hz1 HR1 HW2 HS k1 k2 k3 kV st1 hb1 hst HO hRP hWT hSF a1 a2 a3 a4
  have G0 := hid0 (And.intro stV (And.intro HRV (And.intro HOV hBV)))
  have G1 := hid0 (And.intro HWV HSV)
  clear stV HRV HOV hBV HWV HSV
  go_wp2
  go_loopw [19, 20, 21, 22, 23, 24, 25, 26] (fun s19 s20 s21 s22 s23 s24 s25 i wr => ∃ k : Nat, k ≤ n ∧ i = .int .i64 k ∧ s19 = .int .i64 (tot o k).rs ∧ s20 = .int .i64 (tot o k).dec ∧ s21 = .int .i64 (rlo o k) ∧ s22 = .int .i64 (tot o k).ps ∧ s23 = .int .i64 (plo o k) ∧ s24 = .int .i64 (phi o k) ∧ s25 = .int .i64 (tot o k).cm ∧ Has wr WT 42 (wcT n (tot o k)) ∧ Has wr SF 3 #[.int .i64 (tot o k).sf] ∧ Kept (fun b => b = WT ∨ b = SF) V wr) (fun _ _ _ _ _ _ _ i _ => n - (intOf i).toNat)
  case atStart => exact ⟨0, Nat.zero_le _, rfl, rfl, rfl, rfl, rfl, rfl, rfl, rfl, G1.out.1, G1.out.2, Kept.refl _ _⟩
  case round =>
    clear G1
    obtain ⟨k, hk, rfl, rfl, rfl, rfl, rfl, rfl, rfl, rfl, gw, gs, gk⟩ := hrel
    by_cases hlt : k < n
    · as_aux_lemma =>
      have G0' := G0
      obtain ⟨b, off, ha, HOO⟩ : ∃ b off, a = some ⟨b, off, none⟩ ∧ Outs 0 x.B V b off n o s := by
        rcases G0.out.2.2.1 with h | h
        · omega
        · exact h
      clear G0 G0' HX hp1
      have hbB := hob b off ha
      subst ha
      have HOr : Outs 0 x.B wr b off n o s := HOO.kept (fun _ => gk.block b (by omega) (by omega)) (fun q _ hq => gk.block q (by omega) (by omega))
      have hix := index51 b off n c k hlt
      obtain ⟨OC, hOC'⟩ : ∃ OC, oc (o k) (sv (s k)) = OC := ⟨_, rfl⟩
      have hOC := hid0 hOC'
      have hr : wr.rangeAt b (off + k * 11) OC.toList := by rw [← hOC']; exact HOr.row k hlt
      have hsO : (Try.prog.info? 34).map (·.size) = some OC.size := by rw [← hOC']; exact size34
      have hsO' : (Try.prog.info? 34).map (·.size) = some OC.toList.length := by rw [← hOC']; exact size34
      have h1O : OC.all (·.oneCell') = true := by rw [← hOC']; exact oc_one _ _ _ _
      have hOz : OC.size = ocz.size := by rw [← hOC']; rfl
      have hthO : (wr.alloc (.cells ocz 34)).there wr.heap.size 0 OC.size := (has_new wr 34 ocz).there 0 _ (by rw [hOz]; exact Nat.le_refl _)
      unfold ocz oc at hthO
      clear hOC'
      obtain ⟨t, ht⟩ : ∃ t, tot o k = t := ⟨_, rfl⟩
      obtain ⟨t', ht'⟩ : ∃ t', tot o (k + 1) = t' := ⟨_, rfl⟩
      have HT : Hid (t' = step t (o k)) := hid0 (by rw [← ht', ← ht]; rfl)
      have CAL : Hid (Calm t) := hid0 (by rw [← ht]; exact (hsm k (by omega)).calm (by omega))
      have HT1 := hid0 ht'
      have hlr := hfit.lr k hlt
      have hpp1 := hfit.p1 k hlt
      have hpp2 := hfit.p2 k hlt
      have HRL : Hid (rlo o (k + 1) = if 0 < (o k).lr then (if t.dec = 0 ∨ (o k).lr < rlo o k then (o k).lr else rlo o k) else rlo o k) := hid0 (by rw [← ht]; rfl)
      have HPL : Hid (plo o (k + 1) = if k = 0 ∨ (o k).pp < plo o k then (o k).pp else plo o k) := hid0 rfl
      have HPH : Hid (phi o (k + 1) = if k = 0 ∨ phi o k < (o k).pp then (o k).pp else phi o k) := hid0 rfl
      rw [ht] at gw gs ⊢
      clear ht ht'
      obtain ⟨oo, hoo⟩ : ∃ oo, o k = oo := ⟨_, rfl⟩
      rw [hoo] at hOC HT hlr hpp1 hpp2 HRL HPL HPH
      have T1 : Below wr.heap.size wr ((wr.alloc (.cells ocz 34)).setCells wr.heap.size 0 OC.toList) := Below_setCells ((Below.refl _ _).alloc (Nat.le_refl _) _) (Nat.le_refl _) _ _
      have T2 : Has ((wr.alloc (.cells ocz 34)).setCells wr.heap.size 0 OC.toList) wr.heap.size 34 OC := (has_new wr 34 ocz).setAll OC hOz
      have hwl := gw.lt
      have hsl := gs.lt
      have ST0 := hid0 (show W4 V WT SF wr.heap.size OC (wc4 n t.und t.dis t.val t.ones t.rmax t.ms t.mb) t.sf ((wr.alloc (.cells ocz 34)).setCells wr.heap.size 0 OC.toList) from ⟨gw.of_block (T1.block _ hwl), gs.of_block (T1.block _ hsl), T2, gk.trans (Kept.of_below T1)⟩)
      obtain ⟨OB, hOB⟩ : ∃ OB, OB = wr.heap.size := ⟨_, rfl⟩
      have e1 : SF ≠ WT := by omega
      have e2 : OB ≠ WT := by omega
      have e3 : WT ≠ SF := by omega
      have e4 : OB ≠ SF := by omega
      clear T1 T2 hwl hsl gw gs HOO HOr hOz hoo
      go_upto_region 52 with (first | (refine wpList_load_mid rfl 34 (.tmp 161) rfl b (off + k * 11) rfl OC.toList _ hr Try.underlying34 rfl hsO' ?_; rw [Array.toArray_toList]) | (refine wpList_store_mid rfl 34 (.tmp 27) (.tmp 162) rfl wr.heap.size 0 OC rfl rfl hthO hsO h1O ?_))
      refine gen_world (fun X1 => W4 V WT SF wr.heap.size OC (wc4 n t.und t.dis t.val t.ones t.rmax t.ms t.mb) t.sf X1) ST0.out ?_
      clear ST0 hr hthO hsO hsO' h1O hix
      intro X1 ST
      rw [← hOB] at ST ⊢
      clear hOB gk
      go_frame
      have q1 := ST.w.cell 10 (.int .i64 t.und) rfl
      have q2 := ST.w.frozen 10
      have q3 := ST.o.cell 0 (.bool oo.und) (by rw [← hOC.out]; rfl)
      have hw : wrap64 (t.und + b2 oo.und) = t'.und := by
        have := CAL.out.und
        have := b2_le oo.und
        rw [wr64 _ (by omega) (by omega), HT.out]
        rfl
      have hwi := hid0 (show IntKind.i64.wrap (t.und + b2 oo.und) = t'.und by
        have := CAL.out.und
        have := b2_le oo.und
        rw [wrap_id _ (by omega) (by omega), HT.out]
        rfl)
      have ST1 := hid0 (W4.drew (ST.setW e1 e2 10 (.int .i64 t'.und) (wc4 n t'.und t.dis t.val t.ones t.rmax t.ms t.mb) rfl))
      go_upto_region 52 with fail
      go_cut [] from 154 to 260 (fun wx => W4 V WT SF OB OC (wc4 n t'.und t.dis t.val t.ones t.rmax t.ms t.mb) t.sf wx)
      case first => as_aux_lemma =>
        clear ST
        go_region_with (first | (go_at_call 21; refine (b2i_any oo.und _).mono ?_; rintro e w' ⟨rfl, hq⟩; obtain rfl := hq.symm))
        all_goals
          go_wp2
          go_meet
          case rel => first | exact ST1.out | (rw [hwi.out]; exact ST1.out)
      clear ST ST1 q1 q2 q3 hw hwi
      replace ST := hcut
      clear hcut
      have q1 := ST.w.cell 11 (.int .i64 t.dis) rfl
      have q2 := ST.w.frozen 11
      have q3 := ST.o.cell 1 (.bool oo.dis) (by rw [← hOC.out]; rfl)
      have hw : wrap64 (t.dis + b2 oo.dis) = t'.dis := by
        have := CAL.out.dis
        have := b2_le oo.dis
        rw [wr64 _ (by omega) (by omega), HT.out]
        rfl
      have hwi := hid0 (show IntKind.i64.wrap (t.dis + b2 oo.dis) = t'.dis by
        have := CAL.out.dis
        have := b2_le oo.dis
        rw [wrap_id _ (by omega) (by omega), HT.out]
        rfl)
      have ST1 := hid0 (W4.drew (ST.setW e1 e2 11 (.int .i64 t'.dis) (wc4 n t'.und t'.dis t.val t.ones t.rmax t.ms t.mb) rfl))
      go_upto_region 53 with fail
      go_cut [] from 154 to 260 (fun wx => W4 V WT SF OB OC (wc4 n t'.und t'.dis t.val t.ones t.rmax t.ms t.mb) t.sf wx)
      case first => as_aux_lemma =>
        clear ST
        go_region_with (first | (go_at_call 21; refine (b2i_any oo.dis _).mono ?_; rintro e w' ⟨rfl, hq⟩; obtain rfl := hq.symm))
        all_goals
          go_wp2
          go_meet
          case rel => first | exact ST1.out | (rw [hwi.out]; exact ST1.out)
      clear ST ST1 q1 q2 q3 hw hwi
      replace ST := hcut
      clear hcut
      have q1 := ST.w.cell 12 (.int .i64 t.val) rfl
      have q2 := ST.w.frozen 12
      have q3 := ST.o.cell 2 (.bool oo.val) (by rw [← hOC.out]; rfl)
      have hw : wrap64 (t.val + b2 oo.val) = t'.val := by
        have := CAL.out.val
        have := b2_le oo.val
        rw [wr64 _ (by omega) (by omega), HT.out]
        rfl
      have hwi := hid0 (show IntKind.i64.wrap (t.val + b2 oo.val) = t'.val by
        have := CAL.out.val
        have := b2_le oo.val
        rw [wrap_id _ (by omega) (by omega), HT.out]
        rfl)
      have ST1 := hid0 (W4.drew (ST.setW e1 e2 12 (.int .i64 t'.val) (wc4 n t'.und t'.dis t'.val t.ones t.rmax t.ms t.mb) rfl))
      go_upto_region 54 with fail
      go_cut [] from 154 to 260 (fun wx => W4 V WT SF OB OC (wc4 n t'.und t'.dis t'.val t.ones t.rmax t.ms t.mb) t.sf wx)
      case first => as_aux_lemma =>
        clear ST
        go_region_with (first | (go_at_call 21; refine (b2i_any oo.val _).mono ?_; rintro e w' ⟨rfl, hq⟩; obtain rfl := hq.symm))
        all_goals
          go_wp2
          go_meet
          case rel => first | exact ST1.out | (rw [hwi.out]; exact ST1.out)
      clear ST ST1 q1 q2 q3 hw hwi
      replace ST := hcut
      clear hcut
      have q1 := ST.w.cell 13 (.int .i64 t.ones) rfl
      have q2 := ST.w.frozen 13
      have q3 := ST.o.cell 3 (.bool oo.ones) (by rw [← hOC.out]; rfl)
      have hw : wrap64 (t.ones + b2 oo.ones) = t'.ones := by
        have := CAL.out.ones
        have := b2_le oo.ones
        rw [wr64 _ (by omega) (by omega), HT.out]
        rfl
      have hwi := hid0 (show IntKind.i64.wrap (t.ones + b2 oo.ones) = t'.ones by
        have := CAL.out.ones
        have := b2_le oo.ones
        rw [wrap_id _ (by omega) (by omega), HT.out]
        rfl)
      have ST1 := hid0 (W4.drew (ST.setW e1 e2 13 (.int .i64 t'.ones) (wc4 n t'.und t'.dis t'.val t'.ones t.rmax t.ms t.mb) rfl))
      go_upto_region 55 with fail
      go_cut [] from 154 to 260 (fun wx => W4 V WT SF OB OC (wc4 n t'.und t'.dis t'.val t'.ones t.rmax t.ms t.mb) t.sf wx)
      case first => as_aux_lemma =>
        clear ST
        go_region_with (first | (go_at_call 21; refine (b2i_any oo.ones _).mono ?_; rintro e w' ⟨rfl, hq⟩; obtain rfl := hq.symm))
        all_goals
          go_wp2
          go_meet
          case rel => first | exact ST1.out | (rw [hwi.out]; exact ST1.out)
      clear ST ST1 q1 q2 q3 hw hwi
      replace ST := hcut
      clear hcut
      have q1 := ST.s.cell 0 (.int .i64 t.sf) rfl
      have q2 := ST.s.frozen 0
      have q3 := ST.o.cell 4 (.bool oo.sf) (by rw [← hOC.out]; rfl)
      have hw : wrap64 (t.sf + b2 oo.sf) = t'.sf := by
        have := CAL.out.sf
        have := b2_le oo.sf
        rw [wr64 _ (by omega) (by omega), HT.out]
        rfl
      have hwi := hid0 (show IntKind.i64.wrap (t.sf + b2 oo.sf) = t'.sf by
        have := CAL.out.sf
        have := b2_le oo.sf
        rw [wrap_id _ (by omega) (by omega), HT.out]
        rfl)
      have ST1 := hid0 (W4.drew (ST.setS e3 e4 t'.sf))
      go_upto_region 56 with fail
      go_cut [] from 154 to 260 (fun wx => W4 V WT SF OB OC (wc4 n t'.und t'.dis t'.val t'.ones t.rmax t.ms t.mb) t'.sf wx)
      case first => as_aux_lemma =>
        clear ST
        go_region_with (first | (go_at_call 21; refine (b2i_any oo.sf _).mono ?_; rintro e w' ⟨rfl, hq⟩; obtain rfl := hq.symm))
        all_goals
          go_wp2
          go_meet
          case rel => first | exact ST1.out | (rw [hwi.out]; exact ST1.out)
      clear ST ST1 q1 q2 q3 hw hwi
      replace ST := hcut
      clear hcut
      have q1 := ST.w.cell 17 (.int .i64 t.ms) rfl
      have q2 := ST.w.frozen 17
      have q3 := ST.o.cell 6 (.int .i64 oo.ms) (by rw [← hOC.out]; rfl)
      have hw : wrap64 (t.ms + oo.ms) = t'.ms := by rw [HT.out]; rfl
      have ST1 := hid0 (ST.setW e1 e2 17 (.int .i64 t'.ms) (wc4 n t'.und t'.dis t'.val t'.ones t.rmax t'.ms t.mb) rfl)
      go_upto_region 58 with fail
      refine gen_world (fun X => W4 V WT SF OB OC (wc4 n t'.und t'.dis t'.val t'.ones t.rmax t'.ms t.mb) t'.sf X) ST1.out ?_
      clear ST ST1 q1 q2 q3 hw
      intro X ST
      have q1 := ST.w.cell 18 (.int .i64 t.mb) rfl
      have q2 := ST.w.frozen 18
      have q3 := ST.o.cell 7 (.int .i64 oo.mb) (by rw [← hOC.out]; rfl)
      have hw : mx t.mb oo.mb = t'.mb := by rw [HT.out]; rfl
      have q4 := ST.o.cell 5 (.int .i64 oo.lr) (by rw [← hOC.out]; rfl)
      have ST1 := hid0 (ST.setW e1 e2 18 (.int .i64 t'.mb) (wc4 n t'.und t'.dis t'.val t'.ones t.rmax t'.ms t'.mb) rfl)
      go_upto_if 210 with (first | (go_at_call 22; refine (bigger_any t.mb oo.mb _).mono ?_; rintro e w' ⟨rfl, hq⟩; obtain rfl := hq.symm))
      refine gen_world (fun X => W4 V WT SF OB OC (wc4 n t'.und t'.dis t'.val t'.ones t.rmax t'.ms t'.mb) t'.sf X) ST1.out ?_
      clear ST ST1 q1 q2 q3 q4 hw X
      intro X ST
      go_cut [19, 20, 21] from 154 to 260 (fun s19 s20 s21 wx => s19 = .int .i64 t'.rs ∧ s20 = .int .i64 t'.dec ∧ s21 = .int .i64 (rlo o (k + 1)) ∧ W4 V WT SF OB OC (wc4 n t'.und t'.dis t'.val t'.ones t'.rmax t'.ms t'.mb) t'.sf wx)
      case first => as_aux_lemma =>
        by_cases hb : 0 < oo.lr
        · have q1 := ST.w.cell 15 (.int .i64 t.rmax) rfl
          have q2 := ST.w.frozen 15
          have q4 := ST.o.cell 5 (.int .i64 oo.lr) (by rw [← hOC.out]; rfl)
          have hw1 : mx t.rmax oo.lr = t'.rmax := by rw [HT.out]; simp [step, hb]
          have hw2 : wrap64 (t.rs + oo.lr) = t'.rs := by
            have := CAL.out.rs
            rw [wr64 _ (by omega) (by omega), HT.out]
            simp [step, hb]
          have hw3 : wrap64 (t.dec + 1) = t'.dec := by
            have := CAL.out.dec
            rw [wr64 _ (by omega) (by omega), HT.out]
            simp [step, hb]
          have ST1 := hid0 (ST.setW e1 e2 15 (.int .i64 t'.rmax) (wc4 n t'.und t'.dis t'.val t'.ones t'.rmax t'.ms t'.mb) rfl)
          clear ST
          by_cases hd : t.dec = 0
          · have HE := hid0 (show rlo o (k + 1) = oo.lr by rw [HRL.out, if_pos hb, if_pos (Or.inl hd)])
            have hd1 : (t.dec == 0) = true := by simp [hd]
            clear hd
            go_wp2_with (first | (go_at_call 22; refine (bigger_any t.rmax oo.lr _).mono ?_; rintro e w' ⟨rfl, hq⟩; obtain rfl := hq.symm))
            go_meet
            case rel => exact ⟨by first | rfl | rw [hw2], by first | rfl | rw [hw3], by rw [HE.out], ST1.out⟩
          · have hd1 : (t.dec == 0) = false := by simp [hd]
            by_cases hl : oo.lr < rlo o k
            · have HE := hid0 (show rlo o (k + 1) = oo.lr by rw [HRL.out, if_pos hb, if_pos (Or.inr hl)])
              clear hd
              go_wp2_with (first | (go_at_call 22; refine (bigger_any t.rmax oo.lr _).mono ?_; rintro e w' ⟨rfl, hq⟩; obtain rfl := hq.symm))
              go_meet
              case rel => exact ⟨by first | rfl | rw [hw2], by first | rfl | rw [hw3], by rw [HE.out], ST1.out⟩
            · have HE := hid0 (show rlo o (k + 1) = rlo o k by rw [HRL.out, if_pos hb, if_neg (by omega)])
              clear hd
              go_wp2_with (first | (go_at_call 22; refine (bigger_any t.rmax oo.lr _).mono ?_; rintro e w' ⟨rfl, hq⟩; obtain rfl := hq.symm))
              go_meet
              case rel => exact ⟨by first | rfl | rw [hw2], by first | rfl | rw [hw3], by rw [HE.out], ST1.out⟩
        · have HE := hid0 (show t'.rs = t.rs ∧ t'.dec = t.dec ∧ t'.rmax = t.rmax ∧ rlo o (k + 1) = rlo o k by rw [HRL.out, if_neg hb, HT.out]; simp [step, hb])
          have ST1 := hid0 ST
          clear ST
          go_wp2
          go_meet
          case rel => exact ⟨by rw [HE.out.1], by rw [HE.out.2.1], by rw [HE.out.2.2.2], by rw [HE.out.2.2.1]; exact ST1.out⟩
      clear ST
      obtain ⟨rfl, rfl, rfl, ST⟩ := hcut
      obtain ⟨zb, hzb⟩ : ∃ zb : Bool, ((k : Int) == 0) = zb := ⟨_, rfl⟩
      have HZB := hid0 hzb
      have q4 := ST.o.cell 10 (.int .i64 oo.pp) (by rw [← hOC.out]; rfl)
      obtain ⟨tb, htb⟩ : ∃ tb : Bool, Hid ((tb = true ∧ plo o (k + 1) = oo.pp ∧ (zb = true ∨ (zb = false ∧ oo.pp < plo o k))) ∨ (tb = false ∧ plo o (k + 1) = plo o k ∧ zb = false ∧ ¬ oo.pp < plo o k)) := by
        cases zb
        · have hk0 : ¬ k = 0 := by simpa using HZB.out
          by_cases hl : oo.pp < plo o k
          · exact ⟨true, hid0 (.inl ⟨rfl, by rw [HPL.out, if_pos (Or.inr hl)], .inr ⟨rfl, hl⟩⟩)⟩
          · exact ⟨false, hid0 (.inr ⟨rfl, by rw [HPL.out, if_neg (by omega)], rfl, hl⟩)⟩
        · have hk0 : k = 0 := by simpa using HZB.out
          exact ⟨true, hid0 (.inl ⟨rfl, by rw [HPL.out, if_pos (Or.inl hk0)], .inl rfl⟩)⟩
      have hzb := HZB.out
      go_upto_region 65 with fail
      go_cut [240] from 154 to 260 (fun sT wx => sT = .bool tb ∧ W4 V WT SF OB OC (wc4 n t'.und t'.dis t'.val t'.ones t'.rmax t'.ms t'.mb) t'.sf wx)
      case first => as_aux_lemma =>
        have GF := hid0 ST
        clear ST HZB
        rcases htb.out with ⟨rfl, _, hz | ⟨hz, hl⟩⟩ | ⟨rfl, _, hz, hl⟩
        all_goals
          subst hz
          clear htb
          go_wp2
          go_meet
          case rel => exact ⟨rfl, GF.out⟩
      clear ST q4 hzb
      obtain ⟨rfl, ST⟩ := hcut
      have q4 := ST.o.cell 10 (.int .i64 oo.pp) (by rw [← hOC.out]; rfl)
      go_upto_if 240 with fail
      go_cut [23] from 154 to 260 (fun sT wx => sT = .int .i64 (plo o (k + 1)) ∧ W4 V WT SF OB OC (wc4 n t'.und t'.dis t'.val t'.ones t'.rmax t'.ms t'.mb) t'.sf wx)
      case first => as_aux_lemma =>
        have GF := hid0 ST
        clear ST HZB
        rcases htb.out with ⟨rfl, hE, _⟩ | ⟨rfl, hE, _⟩
        all_goals
          have HE := hid0 hE
          clear hE htb
          go_wp2
          go_meet
          case rel => exact ⟨by rw [HE.out], GF.out⟩
      clear ST q4 htb
      obtain ⟨rfl, ST⟩ := hcut
      have q4 := ST.o.cell 10 (.int .i64 oo.pp) (by rw [← hOC.out]; rfl)
      obtain ⟨tb, htb⟩ : ∃ tb : Bool, Hid ((tb = true ∧ phi o (k + 1) = oo.pp ∧ (zb = true ∨ (zb = false ∧ phi o k < oo.pp))) ∨ (tb = false ∧ phi o (k + 1) = phi o k ∧ zb = false ∧ ¬ phi o k < oo.pp)) := by
        cases zb
        · have hk0 : ¬ k = 0 := by simpa using HZB.out
          by_cases hl : phi o k < oo.pp
          · exact ⟨true, hid0 (.inl ⟨rfl, by rw [HPH.out, if_pos (Or.inr hl)], .inr ⟨rfl, hl⟩⟩)⟩
          · exact ⟨false, hid0 (.inr ⟨rfl, by rw [HPH.out, if_neg (by omega)], rfl, hl⟩)⟩
        · have hk0 : k = 0 := by simpa using HZB.out
          exact ⟨true, hid0 (.inl ⟨rfl, by rw [HPH.out, if_pos (Or.inl hk0)], .inl rfl⟩)⟩
      have hzb := HZB.out
      go_upto_region 67 with fail
      go_cut [250] from 154 to 260 (fun sT wx => sT = .bool tb ∧ W4 V WT SF OB OC (wc4 n t'.und t'.dis t'.val t'.ones t'.rmax t'.ms t'.mb) t'.sf wx)
      case first => as_aux_lemma =>
        have GF := hid0 ST
        clear ST HZB
        rcases htb.out with ⟨rfl, _, hz | ⟨hz, hl⟩⟩ | ⟨rfl, _, hz, hl⟩
        all_goals
          subst hz
          clear htb
          go_wp2
          go_meet
          case rel => exact ⟨rfl, GF.out⟩
      clear ST q4 hzb
      obtain ⟨rfl, ST⟩ := hcut
      have q4 := ST.o.cell 10 (.int .i64 oo.pp) (by rw [← hOC.out]; rfl)
      go_upto_if 250 with fail
      go_cut [24] from 154 to 260 (fun sT wx => sT = .int .i64 (phi o (k + 1)) ∧ W4 V WT SF OB OC (wc4 n t'.und t'.dis t'.val t'.ones t'.rmax t'.ms t'.mb) t'.sf wx)
      case first => as_aux_lemma =>
        have GF := hid0 ST
        clear ST HZB
        rcases htb.out with ⟨rfl, hE, _⟩ | ⟨rfl, hE, _⟩
        all_goals
          have HE := hid0 hE
          clear hE htb
          go_wp2
          go_meet
          case rel => exact ⟨by rw [HE.out], GF.out⟩
      clear ST q4 htb
      obtain ⟨rfl, ST⟩ := hcut
      have q4 := ST.o.cell 10 (.int .i64 oo.pp) (by rw [← hOC.out]; rfl)
      have q5 := ST.o.cell 9 (.int .i64 oo.cm) (by rw [← hOC.out]; rfl)
      have hw1 : wrap64 (t.ps + oo.pp) = t'.ps := by
        have := CAL.out.ps
        rw [wr64 _ (by omega) (by omega), HT.out]
        rfl
      have hw2 : wrap64 (t.cm + oo.cm) = t'.cm := by rw [HT.out]; rfl
      have GF := hid0 ST
      clear ST
      go_wp2
      go_roundw
      case rel => exact ⟨k + 1, by omega, by go_num, by rw [HT1.out], by rw [HT1.out], rfl, by rw [HT1.out]; first | rfl | rw [hw1], rfl, rfl, by rw [HT1.out]; first | rfl | rw [hw2], by rw [HT1.out]; exact GF.out.w, by rw [HT1.out]; exact GF.out.s, GF.out.k⟩
      case measure => simp [intOf]; omega
    · as_aux_lemma =>
      have e : k = n := by omega
      subst e
      have kv := gk
      have stF : x.St mean' pm' (tot o k) wr := G0.out.1.kept gk (by omega) (fun h => by have := hs1' h; omega) (fun h => by have := hpr1' h; omega) (fun h => by have := hnr1' h; omega)
      have HRF : Has wr RP 42 (x.rc mean' (tot o k)) := gk.has G0.out.2.1 (by omega)
      have bl : Below x.B V wr := gk.below (by omega) (by rintro b (rfl | rfl) <;> omega)
      have HOF : OutsV 0 x.B wr a k o s := by
        rcases G0.out.2.2.1 with h0 | ⟨b, off, e, h⟩
        · exact .inl h0
        · exact .inr ⟨b, off, e, h.kept (fun _ => bl.block b (hob b off e)) (fun q _ hq => bl.block q hq)⟩
      have GF := hid0 (show x.St mean' pm' (tot o k) wr ∧ (x.hasP = true → p pm') ∧ Has wr RP 42 (x.rc mean' (tot o k)) ∧ Has wr WT 42 (wcT k (tot o k)) ∧ Has wr SF 3 #[.int .i64 (tot o k).sf] ∧ OutsV 0 x.B wr a k o s ∧ Below x.B W wr ∧ W.heap.size ≤ RP ∧ RP < WT ∧ WT < SF ∧ SF < wr.heap.size from ⟨stF, hp1, HRF, gw, gs, HOF, G0.out.2.2.2.trans bl, bb1, bb2, bb3, gs.lt⟩)
      clear stF HRF bl HOF gw gs gk kv G0
      go_upto_region 71 with fail
      rename_i K9 hK9
      exact HX.out _ _ _ _ _ _ _ _ _ _ _ _ _ _ _ _ _ _ _ _ _ _ _ _ _ _ _ _ _ _ _ _ _ _ _ _ _ _ _ _ _ _ _ _ _ _ _ _ _ _ _ _ _ _ _ _ _ _ _ _ _ _ _ _ _ _ _ _ _ _ _ _ _ _ _ _ _ _ _ _ _ _ _ _ _ _ _ _ _ _ _ _ _ _ _ _ _ _ _ _ _ _ _ _ _ _ _ _ _ _ _ _ _ _ _ _ _ _ _ _ _ _ _ _ _ _ _ _ _ _ _ _ _ _ _ _ _ _ _ _ _ _ _ _ _ _ _ _ _ _ _ _ _ _ _ _ _ _ _ _ _ _ _ _ _ _ _ _ _ _ _ _ _ _ _ _ _ _ _ _ _ _ _ _ _ _ _ _ _ _ _ _ _ _ _ _ _ _ _ _ _ _ _ _ _ _ _ _ _ _ _ _ _ _ _ _ _ _ _ _ _ _ _ _ _ _ _ _ _ _ _ _ _ _ _ _ _ _ _ _ _ _ _ _ _ _ _ _ _ _ _ _ _ _ _ _ _ _ _ _ _ _ _ _ _ _ _ _ _ _ _ _ _ _ _ _ _ _ _ _ _ _ _ _ _ _ _ _ _ _ _ _ _ _ _ _ _ _ _ _ _ _ _ _ _ _ _ _ _ _ _ _ _ _ _ _ _ _ _ _ _ _ _ _ _ _ _ _ _ _ _ _ _ _ _ _ _ _ _ _ _ RP WT SF pm' wr K9 hK9 GF.out
end Go.Proofs.Qxb6601481a
