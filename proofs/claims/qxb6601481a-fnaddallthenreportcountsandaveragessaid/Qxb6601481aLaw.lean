/-
  SEAT b6601481a: THE LAW (6), WHOLE.
-/
import Derived.Test.Qxb6601481aFin
import Derived.Test.Qxb6601481aP1
import Derived.Test.Qxb6601481aP2
import Derived.Test.Qxb6601481aP3
import Derived.Test.Qxb6601481aP4n
import Derived.Test.Qxb6601481aP4y
import Derived.Test.Qxb6601481aP5A
import Derived.Test.Qxb6601481aP5B
import Derived.Test.Qxb6601481aP5C
import Derived.Test.Qxb6601481aP5D
import Derived.Test.Qxb6601481aP5E
import Derived.Test.Qxb6601481aP5F
namespace Go.Proofs.Qxb6601481a
open Go.RowKit Go.Deep
set_option linter.unusedVariables false

theorem Zx.zc_is (x : Zx) (cS wP : Bool) (n m : Nat) (t : Tot) (h1 : x.hasS = cS) (h2 : x.hasP = wP) (h3 : x.inst = n) : x.zc m t = zcells n (if cS then some ⟨x.S, 0, none⟩ else none) (if wP then some ⟨x.PR, 0, none⟩ else none) m t.und t.dis t.val t.ones t.rmax t.ms t.mb t.rs t.dec (if wP then t.ps else 0) := by
  subst h1
  subst h2
  rw [← h3]
  rfl
theorem Zx.rc_is (x : Zx) (cS wP : Bool) (n m : Nat) (t : Tot) (h1 : x.hasS = cS) (h2 : x.hasP = wP) (h3 : x.inst = n) : x.rc m t = rcells n (if cS then some ⟨x.S, 0, none⟩ else none) (if wP then some ⟨x.PR, 0, none⟩ else none) m t.und t.dis t.val t.ones t.rmax t.ms t.mb := by
  subst h1
  subst h2
  rw [← h3]
  rfl

set_option maxHeartbeats 4000000 in
set_option maxRecDepth 100000 in
theorem law_any (n c0 : Nat) (P : Int) (cS wP : Bool) (a0 : Option Addr) (o : Nat → Out) (s0 : Nat → Option Addr × Nat × Nat) (w : World) (H : OutsV 0 w.heap.size w a0 n o s0) :
    Calls Try.prog 6 #[.slice a0 n c0, .bool cS, .bool wP, .int .i64 P] w fun e w' => e = .returned (.bool true) ∧ Below w.heap.size w w' := by
  refine p1 n c0 P cS wP a0 o s0 w ?_ H
  intro d4 d5 d6 d7 d8 d9 d10 d11 d12 d13 d14 d15 d16 d17 d18 d19 d20 d21 d22 d23 d24 d25 d26 d27 d28 d29 d30 d31 d32 d33 d34 d35 d36 d37 d38 d39 d40 d41 d42 d43 d44 d45 d46 d47 d48 d49 d50 d51 d52 d53 d54 d55 d56 d57 d58 d59 d60 d61 d62 d63 d64 d65 d66 d67 d68 d69 d70 d71 d72 d73 d74 d75 d76 d77 d78 d79 d80 d81 d82 d83 d84 d85 d86 d87 d88 d89 d90 d91 d92 d93 d94 d95 d96 d97 d98 d99 d100 d101 d102 d103 d104 d105 d106 d107 d108 d109 d110 d111 d112 d113 d114 d115 d116 d117 d118 d119 d120 d121 d122 d123 d124 d125 d126 d127 d128 d129 d130 d131 d132 d133 d134 d135 d136 d137 d138 d139 d140 d141 d142 d143 d144 d145 d146 d147 d148 d149 d150 d151 d152 d153 d154 d155 d156 d157 d158 d159 d160 d161 d162 d163 d164 d165 d166 d167 d168 d169 d170 d171 d172 d173 d174 d175 d176 d177 d178 d179 d180 d181 d182 d183 d184 d185 d186 d187 d188 d189 d190 d191 d192 d193 d194 d195 d196 d197 d198 d199 d200 d201 d202 d203 d204 d205 d206 d207 d208 d209 d210 d211 d212 d213 d214 d215 d216 d217 d218 d219 d220 d221 d222 d223 d224 d225 d226 d227 d228 d229 d230 d231 d232 d233 d234 d235 d236 d237 d238 d239 d240 d241 d242 d243 d244 d245 d246 d247 d248 d249 d250 d251 d252 d253 d254 d255 d256 d257 d258 d259 d260 d261 d262 d263 d264 d265 d266 d267 d268 d269 d270 d271 d272 d273 d274 d275 d276 d277 d278 d279 d280 d281 d282 d283 d284 d285 d286 d287 d288 d289 d290 d291 d292 d293 d294 d295 d296 d297 d298 d299 d300 d301 d302 d303 d304 d305 d306 d307 d308 d309 d310 d311 d312 d313 d314 d315 d316 d317 d318 d319 d320 d321 d322 d323 d324 d325 d326 d327 d328 d329 d330 d331 d332 d333 d334 d335 d336 d337 d338 d339 d340 d341 d342 d343 d344 d345 d346 d347 d348 d349 d350 d351 d352 d353 d354 d355 d356 d357 d358 d359 d360 d361 d362 d363 d364 d365 d366 ph V K hP hK ⟨hn, hph, hl, hB, hfit, hsf, hnl⟩
  have hsm := small_all o n hfit
  obtain ⟨mean', hm, hmean⟩ := mean_exists o n (hsm n (Nat.le_refl _)) hn
  have hq := phase_is o n (hsm n (Nat.le_refl _)) hn
  have HV : OutsV 0 V.heap.size V a0 n o s0 := by
    by_cases h0 : n = 0
    · exact .inl h0
    · rcases H with h1 | ⟨b, off, e, h⟩
      · exact .inl h1
      refine .inr ⟨b, off, e, ?_⟩
      have h2 : Outs 0 w.heap.size V b off n o s0 := h.kept (fun hp => hB.block b (h.lt hp)) (fun q _ hq => hB.block q hq)
      exact ⟨h2.row, fun i hi => (h2.bl i hi).mono (Nat.le_refl _) hB.size⟩
  refine p2 n ph c0 cS wP a0 o s0 w V K hK ?_ hn hph HV hl hB hsm hfit hsf hnl
  intro d16 d17 d18 d19 d20 d21 d22 d23 d24 d25 d26 d27 d28 d29 d30 d31 d32 d33 d34 d35 d36 d37 d38 d39 d40 d41 d42 d43 d44 d45 d46 d47 d48 d49 d50 d51 d52 d53 d54 d55 d56 d57 d58 d59 d60 d61 d62 d63 d64 d65 d66 d67 d68 d69 d70 d71 d72 d73 d74 d75 d76 d77 d78 d79 d80 d81 d82 d83 d84 d85 d86 d87 d88 d89 d90 d91 d92 d93 d94 d95 d96 d97 d98 d99 d100 d101 d102 d103 d104 d105 d106 d107 d108 d109 d110 d111 d112 d113 d114 d115 d116 d117 d118 d119 d120 d121 d122 d123 d124 d125 d126 d127 d128 d129 d130 d131 d132 d133 d134 d135 d136 d137 d138 d139 d140 d141 d142 d143 d144 d145 d146 d147 d148 d149 d150 d151 d152 d153 d154 d155 d156 d157 d158 d159 d160 d161 d162 d163 d164 d165 d166 d167 d168 d169 d170 d171 d172 d173 d174 d175 d176 d177 d178 d179 d180 d181 d182 d183 d184 d185 d186 d187 d188 d189 d190 d191 d192 d193 d194 d195 d196 d197 d198 d199 d200 d201 d202 d203 d204 d205 d206 d207 d208 d209 d210 d211 d212 d213 d214 d215 d216 d217 d218 d219 d220 d221 d222 d223 d224 d225 d226 d227 d228 d229 d230 d231 d232 d233 d234 d235 d236 d237 d238 d239 d240 d241 d242 d243 d244 d245 d246 d247 d248 d249 d250 d251 d252 d253 d254 d255 d256 d257 d258 d259 d260 d261 d262 d263 d264 d265 d266 d267 d268 d269 d270 d271 d272 d273 d274 d275 d276 d277 d278 d279 d280 d281 d282 d283 d284 d285 d286 d287 d288 d289 d290 d291 d292 d293 d294 d295 d296 d297 d298 d299 d300 d301 d302 d303 d304 d305 d306 d307 d308 d309 d310 d311 d312 d313 d314 d315 d316 d317 d318 d319 d320 d321 d322 d323 d324 d325 d326 d327 d328 d329 d330 d331 d332 d333 d334 d335 d336 d337 d338 d339 d340 d341 d342 d343 d344 d345 d346 d347 d348 d349 d350 d351 d352 d353 d354 d355 d356 d357 d358 d359 d360 d361 d362 d363 d364 d365 d366 x a c s V2 K2 hK2 ⟨ok, xS, xP, xph, xi, hBx, st, hBw, HO, hob, hBel⟩
  refine p3 x ok n c a o s mean' (PhOk o n) w V2 K2 hK2 ?_ st xi hBw HO hob hn hsm hfit hm (fun _ => by rw [xi]; exact hq)
  intro e15 e27 e28 e29 e30 e31 e32 e33 e34 e35 e36 e37 e38 e39 e40 e41 e42 e43 e44 e45 e46 e47 e48 e49 e50 e51 e52 e53 e54 e55 e56 e57 e58 e59 e60 e61 e62 e63 e64 e65 e66 e67 e68 e69 e70 e71 e72 e73 e74 e75 e76 e77 e78 e79 e80 e81 e82 e83 e84 e85 e86 e87 e88 e89 e90 e91 e92 e93 e94 e95 e96 e97 e98 e99 e100 e101 e102 e103 e104 e105 e106 e107 e108 e109 e110 e111 e112 e113 e114 e115 e116 e117 e118 e119 e120 e121 e122 e123 e124 e125 e126 e127 e128 e129 e130 e131 e132 e133 e134 e135 e136 e137 e138 e139 e140 e141 e142 e143 e144 e145 e146 e147 e148 e149 e150 e151 e152 e153 e154 e155 e156 e157 e158 e159 e160 e161 e162 e163 e164 e165 e166 e167 e168 e169 e170 e171 e172 e173 e174 e175 e176 e177 e178 e179 e180 e181 e182 e183 e184 e185 e186 e187 e188 e189 e190 e191 e192 e193 e194 e195 e196 e197 e198 e199 e200 e201 e202 e203 e204 e205 e206 e207 e208 e209 e210 e211 e212 e213 e214 e215 e216 e217 e218 e219 e220 e221 e222 e223 e224 e225 e226 e227 e228 e229 e230 e231 e232 e233 e234 e235 e236 e237 e238 e239 e240 e241 e242 e243 e244 e245 e246 e247 e248 e249 e250 e251 e252 e253 e254 e255 e256 e257 e258 e259 e260 e261 e262 e263 e264 e265 e266 e267 e268 e269 e270 e271 e272 e273 e274 e275 e276 e277 e278 e279 e280 e281 e282 e283 e284 e285 e286 e287 e288 e289 e290 e291 e292 e293 e294 e295 e296 e297 e298 e299 e300 e301 e302 e303 e304 e305 e306 e307 e308 e309 e310 e311 e312 e313 e314 e315 e316 e317 e318 e319 e320 e321 e322 e323 e324 e325 e326 e327 e328 e329 e330 e331 e332 e333 e334 e335 e336 e337 e338 e339 e340 e341 e342 e343 e344 e345 e346 e347 e348 e349 e350 e351 e352 e353 e354 e355 e356 e357 e358 e359 e360 e361 e362 e363 e364 e365 e366 RP WT SF pm' V3 K3 hK3 ⟨st3, hp3, HR, HW, HSF, HO3, hB3, b1, b2, b3, b4⟩
  have hz : x.Z < V2.heap.size := st.z.lt
  have hB30 : Below w.heap.size w V3 := hBel.trans (hB3.mono hBx)
  have hwl : w.heap.size ≤ WT := by have := hBel.size; omega
  have lS : x.hasS = true → x.S < V2.heap.size := fun h => (st.s h).lt
  have lP : x.hasP = true → x.PR < V2.heap.size := fun h => (st.p h).lt
  have lN : x.hasP = true → x.NR < V2.heap.size := fun h => (st.r h).lt
  have HRc := HR
  rw [x.rc_is cS wP n mean' _ xS xP xi] at HRc
  cases wP with
  | false =>
    refine p4_n x.B RP WT n ph c a o s mean' _ _ (tot o n).dec (rlo o n) (tot o n).rmax w V3 K3 hK3 ?_ HR rfl HW rfl hph hn hmean
    intro g8 g29 g30 g31 g32 g33 g34 g35 g36 g37 g38 g39 g40 g41 g42 g43 g44 g45 g46 g47 g48 g49 g50 g51 g52 g53 g54 g55 g56 g57 g58 g59 g60 g61 g62 g63 g64 g65 g66 g67 g68 g69 g70 g71 g72 g73 g74 g75 g76 g77 g78 g79 g80 g81 g82 g83 g84 g85 g86 g87 g88 g89 g90 g91 g92 g93 g94 g95 g96 g97 g98 g99 g100 g101 g102 g103 g104 g105 g106 g107 g108 g109 g110 g111 g112 g113 g114 g115 g116 g117 g118 g119 g120 g121 g122 g123 g124 g125 g126 g127 g128 g129 g130 g131 g132 g133 g134 g135 g136 g137 g138 g139 g140 g141 g142 g143 g144 g145 g146 g147 g148 g149 g150 g151 g152 g153 g154 g155 g156 g157 g158 g159 g160 g161 g162 g163 g164 g165 g166 g167 g168 g169 g170 g171 g172 g173 g174 g175 g176 g177 g178 g179 g180 g181 g182 g183 g184 g185 g186 g187 g188 g189 g190 g191 g192 g193 g194 g195 g196 g197 g198 g199 g200 g201 g202 g203 g204 g205 g206 g207 g208 g209 g210 g211 g212 g213 g214 g215 g216 g217 g218 g219 g220 g221 g222 g223 g224 g225 g226 g227 g228 g229 g230 g231 g232 g233 g234 g235 g236 g237 g238 g239 g240 g241 g242 g243 g244 g245 g246 g247 g248 g249 g250 g251 g252 g253 g254 g255 g256 g257 g258 g259 g260 g261 g262 g263 g264 g265 g266 g267 g268 g269 g270 g271 g272 g273 g274 g275 g276 g277 g278 g279 g280 g281 g282 g283 g284 g285 g286 g287 g288 g289 g290 g291 g292 g293 g294 g295 g296 g297 g298 g299 g300 g301 g302 g303 g304 g305 g306 g307 g308 g309 g310 g311 g312 g313 g314 g315 g316 g317 g318 g319 g320 g321 g322 g323 g324 g325 g326 g327 g328 g329 g330 g331 g332 g333 g334 g335 g336 g337 g338 g339 g340 g341 g342 g343 g344 g345 g346 g347 g348 g349 g350 g351 g352 g353 g354 g355 g356 g357 g358 g359 g360 g361 g362 g363 g364 g365 g366 V4 K4 hK4 hb4
    have st4 := st3.below hb4
    have hz4 := st4.z
    rw [x.zc_is cS false n mean' _ xS xP xi] at hz4
    have hr4 := HRc.of_block (hb4.block _ HRc.lt)
    have hw4 := HW.of_block (hb4.block _ HW.lt)
    have hB4 : Below w.heap.size w V4 := hB30.trans (hb4.mono hB30.size)
    cases cS with
    | false => exact p5_A x.Z RP WT SF x.S x.PR x.NR V3.heap.size n ph 0 _ 0 mean' 0 (fun _ => 0) _ _ _ _ _ _ _ _ _ _ _ _ w V4 K4 hK4 hz4 hr4 hw4 (by omega) (by omega) hB4 hwl
    | true => exact p5_B x.Z RP WT SF x.S x.PR x.NR V3.heap.size n ph (tot o n).sf _ 0 mean' 0 (fun _ => 0) _ _ _ _ _ _ _ _ _ _ _ _ w V4 K4 hK4 hz4 hr4 hw4 (by omega) (by omega) (st4.s xS) (HSF.of_block (hb4.block _ HSF.lt)) (by have := lS xS; omega) (by omega) hB4 hwl
  | true =>
    refine p4_y x.B RP WT n ph c a o s mean' _ _ (tot o n).dec (rlo o n) (tot o n).rmax w V3 K3 hK3 ?_ HR rfl HW rfl hph hn hmean HO3 (by omega) (fun h => hnl rfl h) hl hsm
    intro g8 g29 g30 g31 g32 g33 g34 g35 g36 g37 g38 g39 g40 g41 g42 g43 g44 g45 g46 g47 g48 g49 g50 g51 g52 g53 g54 g55 g56 g57 g58 g59 g60 g61 g62 g63 g64 g65 g66 g67 g68 g69 g70 g71 g72 g73 g74 g75 g76 g77 g78 g79 g80 g81 g82 g83 g84 g85 g86 g87 g88 g89 g90 g91 g92 g93 g94 g95 g96 g97 g98 g99 g100 g101 g102 g103 g104 g105 g106 g107 g108 g109 g110 g111 g112 g113 g114 g115 g116 g117 g118 g119 g120 g121 g122 g123 g124 g125 g126 g127 g128 g129 g130 g131 g132 g133 g134 g135 g136 g137 g138 g139 g140 g141 g142 g143 g144 g145 g146 g147 g148 g149 g150 g151 g152 g153 g154 g155 g156 g157 g158 g159 g160 g161 g162 g163 g164 g165 g166 g167 g168 g169 g170 g171 g172 g173 g174 g175 g176 g177 g178 g179 g180 g181 g182 g183 g184 g185 g186 g187 g188 g189 g190 g191 g192 g193 g194 g195 g196 g197 g198 g199 g200 g201 g202 g203 g204 g205 g206 g207 g208 g209 g210 g211 g212 g213 g214 g215 g216 g217 g218 g219 g220 g221 g222 g223 g224 g225 g226 g227 g228 g229 g230 g231 g232 g233 g234 g235 g236 g237 g238 g239 g240 g241 g242 g243 g244 g245 g246 g247 g248 g249 g250 g251 g252 g253 g254 g255 g256 g257 g258 g259 g260 g261 g262 g263 g264 g265 g266 g267 g268 g269 g270 g271 g272 g273 g274 g275 g276 g277 g278 g279 g280 g281 g282 g283 g284 g285 g286 g287 g288 g289 g290 g291 g292 g293 g294 g295 g296 g297 g298 g299 g300 g301 g302 g303 g304 g305 g306 g307 g308 g309 g310 g311 g312 g313 g314 g315 g316 g317 g318 g319 g320 g321 g322 g323 g324 g325 g326 g327 g328 g329 g330 g331 g332 g333 g334 g335 g336 g337 g338 g339 g340 g341 g342 g343 g344 g345 g346 g347 g348 g349 g350 g351 g352 g353 g354 g355 g356 g357 g358 g359 g360 g361 g362 g363 g364 g365 g366 V4 K4 hK4 hb4 hna
    have st4 := st3.below hb4
    have hz4 := st4.z
    rw [x.zc_is cS true n mean' _ xS xP xi] at hz4
    have hr4 := HRc.of_block (hb4.block _ HRc.lt)
    have hw4 := HW.of_block (hb4.block _ HW.lt)
    have hB4 : Below w.heap.size w V4 := hB30.trans (hb4.mono hB30.size)
    have hpp := st4.p xP
    have hrr := st4.r xP
    rw [xph] at hpp hrr
    have hpm := (hsm n (Nat.le_refl _)).pmax
    have l1 := lP xP
    have l2 := lN xP
    rcases hp3 xP with ⟨h0, hnan⟩ | ⟨h0, hlo, hhi⟩
    · cases cS with
      | false =>
        subst h0
        exact p5_E x.Z RP WT SF x.S x.PR x.NR V3.heap.size 0 ph 0 _ _ mean' pm' _ _ _ _ _ _ _ _ _ _ _ _ _ w V4 K4 hK4 hz4 hr4 hw4 (by omega) (by omega) hpp hrr hna (by omega) (by omega) (by omega) (by omega) hpm hnan hB4 hwl
      | true =>
        subst h0
        exact p5_F x.Z RP WT SF x.S x.PR x.NR V3.heap.size 0 ph (tot o 0).sf _ _ mean' pm' _ _ _ _ _ _ _ _ _ _ _ _ _ w V4 K4 hK4 hz4 hr4 hw4 (by omega) (by omega) (st4.s xS) (HSF.of_block (hb4.block _ HSF.lt)) (by have := lS xS; omega) (by omega) hpp hrr hna (by omega) (by omega) (by omega) (by omega) hpm hnan hB4 hwl
    · cases cS with
      | false => exact p5_C x.Z RP WT SF x.S x.PR x.NR V3.heap.size n ph 0 _ _ mean' pm' _ _ _ _ _ _ _ _ _ _ _ _ _ w V4 K4 hK4 hz4 hr4 hw4 (by omega) (by omega) hpp hrr hna (by omega) (by omega) (by omega) (by omega) hpm h0 hlo hhi hB4 hwl
      | true => exact p5_D x.Z RP WT SF x.S x.PR x.NR V3.heap.size n ph (tot o n).sf _ _ mean' pm' _ _ _ _ _ _ _ _ _ _ _ _ _ w V4 K4 hK4 hz4 hr4 hw4 (by omega) (by omega) (st4.s xS) (HSF.of_block (hb4.block _ HSF.lt)) (by have := lS xS; omega) (by omega) hpp hrr hna (by omega) (by omega) (by omega) (by omega) hpm h0 hlo hhi hB4 hwl
end Go.Proofs.Qxb6601481a
