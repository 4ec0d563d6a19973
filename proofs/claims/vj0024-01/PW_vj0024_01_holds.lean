import PyProof.Rows.All
import Wide.All
import OpenK.AllK
import Wide.FinOn
import PySem.Challenge.RW_vj0024_01
set_option Elab.async false
section
open PySem PySem.W PyProof.Rows
namespace VJ
local macro_rules | `(tactic| k_head) => `(tactic| x_head)
set_option maxRecDepth 100000 in
set_option maxHeartbeats 8000000 in
open_top hd for PySem.Challenge.rw_vj0024_01
end VJ
end

section
open PySem PySem.W PyProof.Rows PySem.Calls
namespace VJ
set_option maxRecDepth 1000000
set_option maxHeartbeats 4000000 in
/-- the written part without the table that the generator of `resolve_refs` writes into -/
noncomputable def K9 (P : Params) : Frag := (fun (a0 a1 a2 a3 a4 a5 a6 a7 a8 a9 a10 a11 a12 a13 a14 a15 a16 a17 a18 a19 a20 a21 a22 a23 a24 a25 a26 a27 a28 a29 a30 a31 a32 a33 a34 a35 a36 a37 a38 a39 a40 a41 a42 a43 a44 a45 a46 a47 a48 a49 a50 a51 a52 a53 a54 a55 a56 a57 a58 a59 a60 a61 a62 a63 a64 a65 a66 a67 a68 a69 a70 a71 a72 a73 a74 a75 a76 a77 a78 a79 a80 a81 a82 a83 a84 a85 a86 a87 a88 a89 a90 a91 a92 a93 a94 a95 a96 a97 a98 a99 a100 a101 a102 a103 a104 a105 a106 a107 a108 a109 a110 a111 a112 a113 a114 a115 a116 a117 a118 a119 a120 a121 a122 a123 a124 a125 a126 a127 a128 a129 a130 a131 a132 a133 a134 a135 a136 a137 a138 a139 a140 a141 a142 a143 a144 a145 a146 a147 a148 a149 a150 a151 a152 a153 a154 a155 a156 a157 a158 a159 a160 a161 a162 a163 a164 a165 a166 a167 a168 a169 a170 a171 a172 a173 a174 a175 a176 a177 a178 a179 a180 a181 a182 a183 a184 a185 a186 a187 a188 a189 a190 a191 a192 a193 a194 a195 a196 a197 a198 a199 a200 a201 a202 a203 a204 a205 a206 a207 a208 a209 a210 a211 a212 a213 a214 a215 a216 a217 a218 a219 a220 a221 a222 a223 a224 a225 a226 a227 a228 a229 a230 a231 a232 a233 a234 a235 a236 a237 a238 a239 a240 a241 a242 a243 a244 a245 a246 a247 a248 a249 a250 a251 a252 a253 a254 a255 a256 a257 a258 a259 a260 a261 a262 a263 a264 a265 a266 a267 a268 a269 a270 a271 a272 a273 a274 a275 a276 a277 a278 a279 a280 a281 a282 a283 a284 a285 a286 a287 a288 a289 a290 a291 a292 a293 a294 a295 a296 a297 a298 a299 x a301 a302 a303 a304 a305 a306 a307 a308 a309 a310 a311 a312 a313 a314 a315 a316 a317 a318 a319 a320 a321 a322 a323 a324 a325 a326 a327 a328 a329 a330 a331 a332 a333 a334 a335 a336 a337 a338 a339 a340 a341 a342 a343 a344 a345 a346 a347 a348 a349 a350 a351 a352 a353 a354 a355 a356 a357 a358 a359 a360 a361 a362 a363 a364 a365 a366 a367 a368 a369 a370 a371 a372 a373 a374 a375 a376 a377 a378 a379 a380 a381 a382 a383 a384 a385 a386 a387 a388 a389 a390 a391 a392 a393 a394 a395 a396 a397 a398 a399 a400 a401 a402 a403 a404 a405 a406 a407 a408 a409 a410 a411 a412 a413 a414 a415 a416 a417 a418 a419 a420 a421 a422 a423 a424 a425 a426 a427 a428 a429 a430 a431 a432 a433 a434 a435 a436 a437 a438 a439 a440 a441 a442 a443 a444 a445 a446 a447 a448 a449 a450 a451 a452 a453 a454 a455 a456 a457 a458 a459 a460 a461 a462 a463 a464 a465 a466 a467 a468 a469 a470 a471 a472 a473 : Addr × Obj) (_ : hd.heap_39 P = a0 :: a1 :: a2 :: a3 :: a4 :: a5 :: a6 :: a7 :: a8 :: a9 :: a10 :: a11 :: a12 :: a13 :: a14 :: a15 :: a16 :: a17 :: a18 :: a19 :: a20 :: a21 :: a22 :: a23 :: a24 :: a25 :: a26 :: a27 :: a28 :: a29 :: a30 :: a31 :: a32 :: a33 :: a34 :: a35 :: a36 :: a37 :: a38 :: a39 :: a40 :: a41 :: a42 :: a43 :: a44 :: a45 :: a46 :: a47 :: a48 :: a49 :: a50 :: a51 :: a52 :: a53 :: a54 :: a55 :: a56 :: a57 :: a58 :: a59 :: a60 :: a61 :: a62 :: a63 :: a64 :: a65 :: a66 :: a67 :: a68 :: a69 :: a70 :: a71 :: a72 :: a73 :: a74 :: a75 :: a76 :: a77 :: a78 :: a79 :: a80 :: a81 :: a82 :: a83 :: a84 :: a85 :: a86 :: a87 :: a88 :: a89 :: a90 :: a91 :: a92 :: a93 :: a94 :: a95 :: a96 :: a97 :: a98 :: a99 :: a100 :: a101 :: a102 :: a103 :: a104 :: a105 :: a106 :: a107 :: a108 :: a109 :: a110 :: a111 :: a112 :: a113 :: a114 :: a115 :: a116 :: a117 :: a118 :: a119 :: a120 :: a121 :: a122 :: a123 :: a124 :: a125 :: a126 :: a127 :: a128 :: a129 :: a130 :: a131 :: a132 :: a133 :: a134 :: a135 :: a136 :: a137 :: a138 :: a139 :: a140 :: a141 :: a142 :: a143 :: a144 :: a145 :: a146 :: a147 :: a148 :: a149 :: a150 :: a151 :: a152 :: a153 :: a154 :: a155 :: a156 :: a157 :: a158 :: a159 :: a160 :: a161 :: a162 :: a163 :: a164 :: a165 :: a166 :: a167 :: a168 :: a169 :: a170 :: a171 :: a172 :: a173 :: a174 :: a175 :: a176 :: a177 :: a178 :: a179 :: a180 :: a181 :: a182 :: a183 :: a184 :: a185 :: a186 :: a187 :: a188 :: a189 :: a190 :: a191 :: a192 :: a193 :: a194 :: a195 :: a196 :: a197 :: a198 :: a199 :: a200 :: a201 :: a202 :: a203 :: a204 :: a205 :: a206 :: a207 :: a208 :: a209 :: a210 :: a211 :: a212 :: a213 :: a214 :: a215 :: a216 :: a217 :: a218 :: a219 :: a220 :: a221 :: a222 :: a223 :: a224 :: a225 :: a226 :: a227 :: a228 :: a229 :: a230 :: a231 :: a232 :: a233 :: a234 :: a235 :: a236 :: a237 :: a238 :: a239 :: a240 :: a241 :: a242 :: a243 :: a244 :: a245 :: a246 :: a247 :: a248 :: a249 :: a250 :: a251 :: a252 :: a253 :: a254 :: a255 :: a256 :: a257 :: a258 :: a259 :: a260 :: a261 :: a262 :: a263 :: a264 :: a265 :: a266 :: a267 :: a268 :: a269 :: a270 :: a271 :: a272 :: a273 :: a274 :: a275 :: a276 :: a277 :: a278 :: a279 :: a280 :: a281 :: a282 :: a283 :: a284 :: a285 :: a286 :: a287 :: a288 :: a289 :: a290 :: a291 :: a292 :: a293 :: a294 :: a295 :: a296 :: a297 :: a298 :: a299 :: x :: a301 :: a302 :: a303 :: a304 :: a305 :: a306 :: a307 :: a308 :: a309 :: a310 :: a311 :: a312 :: a313 :: a314 :: a315 :: a316 :: a317 :: a318 :: a319 :: a320 :: a321 :: a322 :: a323 :: a324 :: a325 :: a326 :: a327 :: a328 :: a329 :: a330 :: a331 :: a332 :: a333 :: a334 :: a335 :: a336 :: a337 :: a338 :: a339 :: a340 :: a341 :: a342 :: a343 :: a344 :: a345 :: a346 :: a347 :: a348 :: a349 :: a350 :: a351 :: a352 :: a353 :: a354 :: a355 :: a356 :: a357 :: a358 :: a359 :: a360 :: a361 :: a362 :: a363 :: a364 :: a365 :: a366 :: a367 :: a368 :: a369 :: a370 :: a371 :: a372 :: a373 :: a374 :: a375 :: a376 :: a377 :: a378 :: a379 :: a380 :: a381 :: a382 :: a383 :: a384 :: a385 :: a386 :: a387 :: a388 :: a389 :: a390 :: a391 :: a392 :: a393 :: a394 :: a395 :: a396 :: a397 :: a398 :: a399 :: a400 :: a401 :: a402 :: a403 :: a404 :: a405 :: a406 :: a407 :: a408 :: a409 :: a410 :: a411 :: a412 :: a413 :: a414 :: a415 :: a416 :: a417 :: a418 :: a419 :: a420 :: a421 :: a422 :: a423 :: a424 :: a425 :: a426 :: a427 :: a428 :: a429 :: a430 :: a431 :: a432 :: a433 :: a434 :: a435 :: a436 :: a437 :: a438 :: a439 :: a440 :: a441 :: a442 :: a443 :: a444 :: a445 :: a446 :: a447 :: a448 :: a449 :: a450 :: a451 :: a452 :: a453 :: a454 :: a455 :: a456 :: a457 :: a458 :: a459 :: a460 :: a461 :: a462 :: a463 :: a464 :: a465 :: a466 :: a467 :: a468 :: a469 :: a470 :: a471 :: a472 :: a473 :: []) => a0 :: a1 :: a2 :: a3 :: a4 :: a5 :: a6 :: a7 :: a8 :: a9 :: a10 :: a11 :: a12 :: a13 :: a14 :: a15 :: a16 :: a17 :: a18 :: a19 :: a20 :: a21 :: a22 :: a23 :: a24 :: a25 :: a26 :: a27 :: a28 :: a29 :: a30 :: a31 :: a32 :: a33 :: a34 :: a35 :: a36 :: a37 :: a38 :: a39 :: a40 :: a41 :: a42 :: a43 :: a44 :: a45 :: a46 :: a47 :: a48 :: a49 :: a50 :: a51 :: a52 :: a53 :: a54 :: a55 :: a56 :: a57 :: a58 :: a59 :: a60 :: a61 :: a62 :: a63 :: a64 :: a65 :: a66 :: a67 :: a68 :: a69 :: a70 :: a71 :: a72 :: a73 :: a74 :: a75 :: a76 :: a77 :: a78 :: a79 :: a80 :: a81 :: a82 :: a83 :: a84 :: a85 :: a86 :: a87 :: a88 :: a89 :: a90 :: a91 :: a92 :: a93 :: a94 :: a95 :: a96 :: a97 :: a98 :: a99 :: a100 :: a101 :: a102 :: a103 :: a104 :: a105 :: a106 :: a107 :: a108 :: a109 :: a110 :: a111 :: a112 :: a113 :: a114 :: a115 :: a116 :: a117 :: a118 :: a119 :: a120 :: a121 :: a122 :: a123 :: a124 :: a125 :: a126 :: a127 :: a128 :: a129 :: a130 :: a131 :: a132 :: a133 :: a134 :: a135 :: a136 :: a137 :: a138 :: a139 :: a140 :: a141 :: a142 :: a143 :: a144 :: a145 :: a146 :: a147 :: a148 :: a149 :: a150 :: a151 :: a152 :: a153 :: a154 :: a155 :: a156 :: a157 :: a158 :: a159 :: a160 :: a161 :: a162 :: a163 :: a164 :: a165 :: a166 :: a167 :: a168 :: a169 :: a170 :: a171 :: a172 :: a173 :: a174 :: a175 :: a176 :: a177 :: a178 :: a179 :: a180 :: a181 :: a182 :: a183 :: a184 :: a185 :: a186 :: a187 :: a188 :: a189 :: a190 :: a191 :: a192 :: a193 :: a194 :: a195 :: a196 :: a197 :: a198 :: a199 :: a200 :: a201 :: a202 :: a203 :: a204 :: a205 :: a206 :: a207 :: a208 :: a209 :: a210 :: a211 :: a212 :: a213 :: a214 :: a215 :: a216 :: a217 :: a218 :: a219 :: a220 :: a221 :: a222 :: a223 :: a224 :: a225 :: a226 :: a227 :: a228 :: a229 :: a230 :: a231 :: a232 :: a233 :: a234 :: a235 :: a236 :: a237 :: a238 :: a239 :: a240 :: a241 :: a242 :: a243 :: a244 :: a245 :: a246 :: a247 :: a248 :: a249 :: a250 :: a251 :: a252 :: a253 :: a254 :: a255 :: a256 :: a257 :: a258 :: a259 :: a260 :: a261 :: a262 :: a263 :: a264 :: a265 :: a266 :: a267 :: a268 :: a269 :: a270 :: a271 :: a272 :: a273 :: a274 :: a275 :: a276 :: a277 :: a278 :: a279 :: a280 :: a281 :: a282 :: a283 :: a284 :: a285 :: a286 :: a287 :: a288 :: a289 :: a290 :: a291 :: a292 :: a293 :: a294 :: a295 :: a296 :: a297 :: a298 :: a299 :: a301 :: a302 :: a303 :: a304 :: a305 :: a306 :: a307 :: a308 :: a309 :: a310 :: a311 :: a312 :: a313 :: a314 :: a315 :: a316 :: a317 :: a318 :: a319 :: a320 :: a321 :: a322 :: a323 :: a324 :: a325 :: a326 :: a327 :: a328 :: a329 :: a330 :: a331 :: a332 :: a333 :: a334 :: a335 :: a336 :: a337 :: a338 :: a339 :: a340 :: a341 :: a342 :: a343 :: a344 :: a345 :: a346 :: a347 :: a348 :: a349 :: a350 :: a351 :: a352 :: a353 :: a354 :: a355 :: a356 :: a357 :: a358 :: a359 :: a360 :: a361 :: a362 :: a363 :: a364 :: a365 :: a366 :: a367 :: a368 :: a369 :: a370 :: a371 :: a372 :: a373 :: a374 :: a375 :: a376 :: a377 :: a378 :: a379 :: a380 :: a381 :: a382 :: a383 :: a384 :: a385 :: a386 :: a387 :: a388 :: a389 :: a390 :: a391 :: a392 :: a393 :: a394 :: a395 :: a396 :: a397 :: a398 :: a399 :: a400 :: a401 :: a402 :: a403 :: a404 :: a405 :: a406 :: a407 :: a408 :: a409 :: a410 :: a411 :: a412 :: a413 :: a414 :: a415 :: a416 :: a417 :: a418 :: a419 :: a420 :: a421 :: a422 :: a423 :: a424 :: a425 :: a426 :: a427 :: a428 :: a429 :: a430 :: a431 :: a432 :: a433 :: a434 :: a435 :: a436 :: a437 :: a438 :: a439 :: a440 :: a441 :: a442 :: a443 :: a444 :: a445 :: a446 :: a447 :: a448 :: a449 :: a450 :: a451 :: a452 :: a453 :: a454 :: a455 :: a456 :: a457 :: a458 :: a459 :: a460 :: a461 :: a462 :: a463 :: a464 :: a465 :: a466 :: a467 :: a468 :: a469 :: a470 :: a471 :: a472 :: a473 :: []) _ _ _ _ _ _ _ _ _ _ _ _ _ _ _ _ _ _ _ _ _ _ _ _ _ _ _ _ _ _ _ _ _ _ _ _ _ _ _ _ _ _ _ _ _ _ _ _ _ _ _ _ _ _ _ _ _ _ _ _ _ _ _ _ _ _ _ _ _ _ _ _ _ _ _ _ _ _ _ _ _ _ _ _ _ _ _ _ _ _ _ _ _ _ _ _ _ _ _ _ _ _ _ _ _ _ _ _ _ _ _ _ _ _ _ _ _ _ _ _ _ _ _ _ _ _ _ _ _ _ _ _ _ _ _ _ _ _ _ _ _ _ _ _ _ _ _ _ _ _ _ _ _ _ _ _ _ _ _ _ _ _ _ _ _ _ _ _ _ _ _ _ _ _ _ _ _ _ _ _ _ _ _ _ _ _ _ _ _ _ _ _ _ _ _ _ _ _ _ _ _ _ _ _ _ _ _ _ _ _ _ _ _ _ _ _ _ _ _ _ _ _ _ _ _ _ _ _ _ _ _ _ _ _ _ _ _ _ _ _ _ _ _ _ _ _ _ _ _ _ _ _ _ _ _ _ _ _ _ _ _ _ _ _ _ _ _ _ _ _ _ _ _ _ _ _ _ _ _ _ _ _ _ _ _ _ _ _ _ _ _ _ _ _ _ _ _ _ _ _ _ _ _ _ _ _ _ _ _ _ _ _ _ _ _ _ _ _ _ _ _ _ _ _ _ _ _ _ _ _ _ _ _ _ _ _ _ _ _ _ _ _ _ _ _ _ _ _ _ _ _ _ _ _ _ _ _ _ _ _ _ _ _ _ _ _ _ _ _ _ _ _ _ _ _ _ _ _ _ _ _ _ _ _ _ _ _ _ _ _ _ _ _ _ _ _ _ _ _ _ _ _ _ _ _ _ _ _ _ _ _ _ _ _ _ _ _ _ _ _ _ _ _ _ _ _ _ _ _ _ _ _ _ _ _ _ _ _ _ _ _ _ _ _ _ _ _ _ _ _ _ _ _ _ _ _ _ _ _ _ _ _ _ _ _ _ _ _ _ _ _ _ _ _ rfl
end VJ
end

section
open PySem PySem.W PyProof.Rows PySem.Calls
namespace VJ
set_option maxRecDepth 100000

/-- what a def may touch: each entry lies in the heap and not in the ground -/
def Led (G h : Heap) (news : List (Addr × Obj)) : Prop := ∀ p ∈ news, h.get? p.1 = some p.2 ∧ G.get? p.1 = none

/-- the contract of a def: what a call of it does to its ledger, whatever else stands -/
def Told (prog : Program) (w : World) (f : Addr) (vs : List Value) (dn un : Nat) (news : List (Addr × Obj)) (Ret : Value → List (Addr × Obj) → Prop) (Raise : List (Addr × Obj) → Prop) : Prop :=
  ∀ (A : Around) (env : Env) (outer : List Env) (base G : Heap) (p : Program) (loose : List Str) (mean : ExcName → Option Value) (mg mb : Str → Option Value) (s : Shared) (Q E : Value → Shared → Prop),
    Below A base (env :: outer) G → (K9 w.params).In G → Top p loose mean mg mb G → A.handled = none → A.depth + dn < recursionLimit → A.units + un < cLine →
    (∀ b o, G.get? b = some o → s.heap.get? b = some o) → G.objs.size ≤ s.heap.objs.size → Led G s.heap news →
    (∀ r news' h' tk', (∀ b o, G.get? b = some o → h'.get? b = some o) → Led G h' news' → Ret r news' → Q r { s with heap := h', toks := tk' }) →
    (∀ e t us news' h' tk', RaisedS base G (env :: outer) e (.ref 106) t us news' h' → G.UpToSlots h' → Raise news' → E (.ref e) { s with heap := h', toks := tk' }) →
    wpAny (model prog w) A (call (.ref f) vs) Q E s

section
variable {prog : Program} {w : World} {A A₀ : Around} {env : Env} {outer : List Env} {base h₀ G h : Heap} {p : Program} {loose : List Str} {mean : ExcName → Option Value} {mg mb : Str → Option Value} {s : Shared} {Q E : Value → Shared → Prop}
  {L f : Addr} {m : Str → Option Value} {vs : List Value} {dn un : Nat} {news xs : List (Addr × Obj)} {Ret : Value → List (Addr × Obj) → Prop} {Raise : List (Addr × Obj) → Prop}

/-- the ground of a call: all of the heap but the callee's ledger -/
abbrev groundOf (h : Heap) (news : List (Addr × Obj)) : Heap := hideAll h (news.map (·.1))

theorem ground_keep (N : News h₀ L h news) {b : Addr} {o : Obj} (e : h₀.get? b = some o) (F : Fr h₀ L h m) : (groundOf h news).get? b = some o := by
  refine hideAll_get _ (F.keep b o e) fun q => ?_
  obtain ⟨p, hp, rfl⟩ := List.mem_map.mp q
  rw [(N p hp).2.2] at e; cases e

theorem ground_frame (F : Fr h₀ L h m) (N : News h₀ L h news) : Fr h₀ L (groundOf h news) m := by
  obtain ⟨oL, es, ep, hL, r⟩ := F.ns
  have nL : L ∉ news.map (·.1) := fun q => by
    obtain ⟨p, hp, e⟩ := List.mem_map.mp q
    exact (N p hp).2.1 e
  exact ⟨⟨oL, es, ep, hideAll_get _ hL nL, r⟩, fun b o e => ground_keep N e F, F.above⟩

/-- a call under a contract -/
theorem told_use (C : Told prog w f vs dn un news Ret Raise) (B : Below A₀ base outer h₀) (F : Fr h₀ L s.heap m) (X : (K9 w.params).In h₀) (N : News h₀ L s.heap (xs ++ news)) (T : Top p loose mean mg mb h₀)
    (hA : A.frames = some (env :: outer)) (hf : env.frame = some L) (hke : env.scope.kind = .function) (hh : A.handled = none) (hd : A.depth + dn < recursionLimit) (hu : A.units + un < cLine)
    (ap : ∀ q ∈ xs, ∀ r ∈ news, q.1 ≠ r.1)
    (ret : ∀ r news' h' tk', Fr h₀ L h' m → News h₀ L h' (xs ++ news') → (∀ q ∈ xs, ∀ r ∈ news', q.1 ≠ r.1) → Ret r news' → Q r { s with heap := h', toks := tk' })
    (exc : ∀ e t us news' g h' tk', Fr h₀ L g m → RaisedS base g (env :: outer) e (.ref 106) t us news' h' → g.UpToSlots h' → Raise news' → E (.ref e) { s with heap := h', toks := tk' }) :
    wpAny (model prog w) A (call (.ref f) vs) Q E s := by
  have Nn : News h₀ L s.heap news := fun p hp => N p (List.mem_append.mpr (.inr hp))
  have Nx : News h₀ L s.heap xs := fun p hp => N p (List.mem_append.mpr (.inl hp))
  have FG := ground_frame F Nn
  have st : h₀.StaysIn (groundOf s.heap news) := FG.keep
  obtain ⟨oL, es, ep, hLg, hLr⟩ := FG.ns
  have B₂ : Below A base (env :: outer) (groundOf s.heap news) := by
    refine ⟨hA, fun b o e => st b o (B.stays b o e), ?_⟩
    have nb : base.get? L = none := by
      cases q : base.get? L with
      | none => rfl
      | some o => exact absurd (Nat.lt_of_lt_of_le (Heap.lt_size (B.stays L o q)) F.above) (Nat.lt_irrefl _)
    exact .cons (by rw [hke]; decide) hf FG.ns nb (B.frames.of_keeps fun b o e _ => ⟨o, st b o e, rfl⟩)
  refine C A env outer base (groundOf s.heap news) p loose mean mg mb s Q E B₂ (Frag.In.keeps X st) (T.keeps st) hh hd hu (fun b o e => of_hideAll _ e) (Nat.le_of_eq (hideAll_size _ _))
    (fun q hq => ⟨(Nn q hq).1, hideAll_none _ (List.mem_map_of_mem hq)⟩) (fun r news' h' tk' hk hl hr => ?_) (fun e t us news' h' tk' R U hr => exc e t us news' _ h' tk' FG R U hr)
  have F' : Fr h₀ L h' m := ⟨⟨oL, es, ep, hk _ _ hLg, hLr⟩, fun b o e => hk _ _ (st b o e), F.above⟩
  have apx : ∀ q ∈ xs, (groundOf s.heap news).get? q.1 = some q.2 := fun q hq => hideAll_get _ (Nx q hq).1 fun z => by
    obtain ⟨r, hr, e⟩ := List.mem_map.mp z
    exact ap q hq r hr e.symm
  refine ret r news' h' tk' F' (fun q hq => ?_) (fun q hq r hr e => ?_) hr
  · rcases List.mem_append.mp hq with hq | hq
    · exact ⟨hk _ _ (apx q hq), (Nx q hq).2⟩
    · refine ⟨(hl q hq).1, fun e => ?_, ?_⟩
      · have := (hl q hq).2; rw [e, hLg] at this; cases this
      · cases z : h₀.get? q.1 with
        | none => rfl
        | some o => have := (hl q hq).2; rw [st _ _ z] at this; cases this
  · have := (hl r hr).2; rw [← e, apx q hq] at this; cases this

/-- the end of a body: what is handed back, and the ledger as it lies then -/
def Back (G : Heap) (s : Shared) (Ret : Value → List (Addr × Obj) → Prop) (v : Value) (s' : Shared) : Prop :=
  ∃ news' h' tk', s' = { s with heap := h', toks := tk' } ∧ (∀ b o, G.get? b = some o → h'.get? b = some o) ∧ Led G h' news' ∧ Ret v news'
/-- the other end: a left recursion flies -/
def Oops (base : Heap) (l : List Env) (G : Heap) (s : Shared) (Raise : List (Addr × Obj) → Prop) (e : Value) (s' : Shared) : Prop :=
  ∃ a t us news' h' tk', e = .ref a ∧ s' = { s with heap := h', toks := tk' } ∧ RaisedS base G l a (.ref 106) t us news' h' ∧ G.UpToSlots h' ∧ Raise news'

theorem back_of {h' : Heap} {tk' : Nat} {v : Value} {news' : List (Addr × Obj)} {L' : Addr} {m' : Str → Option Value} (F : Fr G L' h' m') (N : News G L' h' news') (hr : Ret v news') : Back G s Ret v { s with heap := h', toks := tk' } :=
  ⟨news', h', tk', rfl, F.keep, fun q hq => ⟨(N q hq).1, (N q hq).2.2⟩, hr⟩
theorem back_of' {s' : Shared} {v : Value} {news' : List (Addr × Obj)} {L' : Addr} {m' : Str → Option Value} (F : Fr G L' s'.heap m') (N : News G L' s'.heap news') (hr : Ret v news') (e : s' = { s with heap := s'.heap, toks := s'.toks } := by rfl) : Back G s Ret v s' :=
  ⟨news', s'.heap, s'.toks, e, F.keep, fun q hq => ⟨(N q hq).1, (N q hq).2.2⟩, hr⟩
theorem oops_of {base : Heap} {l : List Env} {h' : Heap} {tk' : Nat} {e t : Addr} {us : List Value} {news' : List (Addr × Obj)} (R : RaisedS base G l e (.ref 106) t us news' h') (U : G.UpToSlots h') (hr : Raise news') : Oops base l G s Raise (.ref e) { s with heap := h', toks := tk' } :=
  ⟨e, t, us, news', h', tk', rfl, rfl, R, U, hr⟩

/-- a def holds its contract when its body does -/
theorem told_def {name qual : Str} {params : Arguments} {body : List Stmt} {scope : Scope} {dV kV doc pm cdv ct oc : Value} {an od : Option Addr} {osl : Array (Option Value)} {binds : List (Str × Value)}
    (ho : (K9 w.params).lookup f = some ⟨oc, od, .func (fnOf name qual params body scope dV kV doc pm an cdv ct), osl⟩) (hcd : codeIn (K9 w.params) cdv qual = true) (hdn : 0 < dn)
    (hbind : ∀ {G : Heap} {s : Shared}, (K9 w.params).In G → (∀ b o, G.get? b = some o → s.heap.get? b = some o) → BindsTo s (fnOf name qual params body scope dV kV doc pm an cdv ct) ⟨vs, []⟩ binds) (hloc : ∀ y ∈ binds, scope.names.lookup y.1 = some .local)
    (hb : ∀ (dp un' : Nat) (gd : Option (List Code)) (env : Env) (outer : List Env) (base G : Heap) (p : Program) (loose : List Str) (mean : ExcName → Option Value) (mg mb : Str → Option Value) (s : Shared) (L : Addr) (h₁ : Heap) (tk : Nat),
      dp + dn < recursionLimit → un' + un < cLine → Fr G L h₁ (fun y => binds.reverse.lookup y) → News G L h₁ news → (∀ q ∈ news, q.1 < L) → Below { handled := none, depth := dp, frames := some (env :: outer), guards := gd, units := un' } base (env :: outer) G → (K9 w.params).In G → Top p loose mean mg mb G →
      wpAny (model prog w) (Around.deeper { handled := none, depth := dp, frames := some (env :: outer), guards := gd, units := un' } (envOf qual scope L f cdv)) (execs body (envOf qual scope L f cdv))
        (fun fl s' => Back G s Ret (match fl with | .ret v => v | _ => .none) s')
        (fun e s' => wpAny (model prog w) (Around.deeper { handled := none, depth := dp, frames := some (env :: outer), guards := gd, units := un' } (envOf qual scope L f cdv)) (leaving (envOf qual scope L f cdv) e)
          (fun _ s'' => Oops base (env :: outer) G s Raise e s'') (fun _ _ => False) s')
        { s with heap := h₁, toks := tk })
    (hco : scope.isCoroutine = false := by rfl) (hgen : scope.isGenerator = false := by rfl) (hk : scope.kind = .function := by rfl)
    (hcell : ∀ x ∈ scope.names, x.2 ≠ .cell := by decide) : Told prog w f vs dn un news Ret Raise := by
  intro A env outer base G p loose mean mg mb s Q E B X T hh hd hu hk₀ hsz N ret exc
  obtain ⟨hnd, dp, fr, gd, un'⟩ := A
  obtain rfl : hnd = none := hh
  obtain rfl : fr = some (env :: outer) := B.stack
  refine wpAny_call (codeAny_call_def (fd := fnOf name qual params body scope dV kV doc pm an cdv ct) (body := body) (binds := binds) (Nat.lt_of_le_of_lt (Nat.le_add_right _ _) hd) (hk₀ _ _ (X _ _ ho)) rfl (T.nolimit.keeps hk₀) (codeRec_of (Frag.In.keeps X hk₀) hcd) rfl (hbind X hk₀) hcell hloc (fun h₁ hns hk₁ => ?_) hco hgen hk)
  refine wpAny_mono (hb dp un' gd env outer base G p loose mean mg mb s s.heap.objs.size h₁ (s.toks + binds.length) hd hu ⟨hns, fun b o e => hk₁ b o (hk₀ b o e), hsz⟩ (fun q hq => ⟨hk₁ _ _ (N q hq).1, Nat.ne_of_lt (Heap.lt_size (N q hq).1), (N q hq).2⟩) (fun q hq => Heap.lt_size (N q hq).1) B X T) (fun fl s' z => ?_) fun e s' z => ?_
  · obtain ⟨news', h', tk', rfl, hk', N', hr⟩ := z
    exact ret _ _ _ _ hk' N' hr
  · refine wpAny_mono z (fun _ s'' z => ?_) fun _ _ z => z.elim
    obtain ⟨a, t, us, news', h', tk', rfl, rfl, R, U, hr⟩ := z
    exact exc _ _ _ _ _ _ R U hr
end
end VJ
end

section
open PySem PySem.W PyProof.Rows PySem.Calls
namespace VJ
set_option maxRecDepth 100000
theorem fill : K9 = K9 ∧ PySem.Challenge.rw_vj0024_01 = PySem.Challenge.rw_vj0024_01 := by
  w_top off
  k_fill
  exact ⟨rfl, rfl⟩
theorem list_mem_of {x : Addr × Obj} {l : List (Addr × Obj)} (h : x ∈ l) : List.Mem x l := h
/-- a goal that the walk leaves alone -/
def Halt (p : Prop) : Prop := p
theorem halt_of {p : Prop} (h : Halt p) : p := h
section
variable {prog : Program} {w : World} {A : Around} {E : Value → Shared → Prop} {s : Shared} {h₀ : Heap} {L D : Addr} {m : Str → Option Value} {news news' : List (Addr × Obj)} {its its' : Array Value} {n : Nat} {k : Int} {t : Tok} {v : Value}
/-- xs[k] = v, the list in the ledger -/
theorem set_lst {Q : Unit → Shared → Prop} (F : Fr h₀ L s.heap m) (Nw : News h₀ L s.heap news) (U : Upd D (listOf its n) (listOf its' n) news news') (e : its.setIfInBounds k.toNat v = its') (h0 : 0 ≤ k) (h1 : k < its.size) (hf : k < 2 ^ 63)
    (h : ∀ h', Fr h₀ L h' m → News h₀ L h' news' → Q () { s with heap := h' }) : wpAny (model prog w) A (setItem (.ref D) (.int k t) v) Q E s := by
  obtain ⟨pre, post, rfl, rfl, a, b⟩ := U.split
  have z := Nw (D, listOf its n) (List.mem_append.mpr (.inr (.head _)))
  have hj : k.toNat < its.size := by omega
  refine ki_setAt z.1 h0 hf h1 (h _ (F.change (Heap.SameBut.update ..) z.2.1 z.2.2) (ki_turn _ Nw a b e ?_))
  rw [if_pos (by rw [← e]; simp)]
/-- an item of a list of texts at a bounded place: some text of the list -/
theorem item_text {value slice : PySem.Expr} {l : Addr} {ws : List (Str × Tok)} {u : Tok} {Q : Value → Shared → Prop} (N : News h₀ L s.heap news) (hm : (l, listOf (ws.map fun p => Value.str p.1 p.2).toArray n) ∈ news)
    (h0 : 0 ≤ k) (h1 : k < ws.length) (hf : k < 2 ^ 63) (h : ∀ x t, x ∈ ws.map (·.1) → Q (.str x t) s)
    (hs : subscripted slice false (.ref l) (.int k u) = operate [.ref l, .int k u] (getItem (.ref l) (.int k u)) := by with_unfolding_all rfl) :
    wpAny (model prog w) A (subscriptTail value slice (.ref l) (.int k u)) Q E s := by
  have hl : s.heap.IsList l (ws.map fun p => Value.str p.1 p.2).toArray := PySem.IsL.isList (n := n) (N _ hm).1
  have hk : k.toNat < ws.length := by omega
  refine tail_any hl.typeIs slot_list_getitem.lookup (wpAny_getItem_list hl h0 hf ?_ (h ws[k.toNat].1 ws[k.toNat].2 (List.mem_map_of_mem (List.getElem_mem hk)))) hs
  simp [hk]
theorem len_lst {l : Addr} {Q : Value → Shared → Prop} (N : News h₀ L s.heap news) (hm : (l, listOf its n) ∈ news) (hz : its.size ≤ 1000) (h : Q (.int its.size (s.toks + 1)) { s with toks := s.toks + 1 + 1 }) :
    wpAny (model prog w) A (call (.builtin "len") [.ref l]) Q E s :=
  Calls.call_len_list (PySem.IsL.isList (n := n) (N _ hm).1) (by omega) h
theorem append_lst {xs : List Value} {x : Value} {Q : Value → Shared → Prop} (F : Fr h₀ L s.heap m) (N : News h₀ L s.heap news) (U : Upd D (listOf xs.toArray n) (listOf (xs ++ [x]).toArray (n + 1)) news news')
    (h : ∀ h', Fr h₀ L h' m → News h₀ L h' news' → Q .none { s with heap := h' }) (hsz : xs.length ≤ 1000) : wpAny (model prog w) A (call (.builtin "list.append") [.ref D, x]) Q E s := by
  refine append_K (its := xs.toArray) (n := n) (news' := news') F N ?_ h (by rw [List.size_toArray, sizeLine_eq]; omega)
  rw [List.push_toArray]
  exact U
end
end VJ
end

section
open PySem PySem.W PyProof.Rows PySem.Calls
namespace VJ
set_option maxRecDepth 100000
/-- a generator that is drained into a list at S: its states, told to whoever holds the list -/
structure Drain (prog : Program) (w : World) (A : Around) (I : Addr) (n : Nat) (S : Addr) (St : List Value → Shared → Prop) (Fin : List Value → Shared → Prop) : Prop where
  frame : ∀ vs (s : Shared) h', St vs s → (∀ b o, b ≠ S → s.heap.get? b = some o → h'.get? b = some o) → h'.objs.size = s.heap.objs.size → (∃ o, h'.get? S = some o) → St vs { s with heap := h' }
  typ : ∀ vs s, St vs s → s.TypeIs (.ref I) "generator"
  ne : S ≠ I
  item : ∀ vs (s : Shared) (Q : Option Value → Shared → Prop) (E : Value → Shared → Prop), vs.length < n → St vs s → (∀ v s', St (vs ++ [v]) s' → (∀ o, s.heap.get? S = some o → s'.heap.get? S = some o) → Q (some v) s') → wpAny (model prog w) A (pyNext (.ref I)) Q E s
  done : ∀ vs (s : Shared) (Q : Option Value → Shared → Prop) (E : Value → Shared → Prop), vs.length = n → St vs s → (∀ s', Fin vs s' → (∀ o, s.heap.get? S = some o → s'.heap.get? S = some o) → Q none s') → wpAny (model prog w) A (pyNext (.ref I)) Q E s
  self : ∀ vs (s : Shared) (Q : Value → Shared → Prop) (E : Value → Shared → Prop), St vs s → Q (.ref I) s → wpAny (model prog w) A (pyIter (.ref I)) Q E s
section
variable {prog : Program} {w : World} {A : Around} {I S : Addr} {n : Nat} {St Fin : List Value → Shared → Prop}
theorem Drain.of_in1 (W : Drain prog w A.in1 I n S St Fin) : Drain prog w A I n S St Fin where
  frame := W.frame
  typ := W.typ
  ne := W.ne
  item vs s Q E a b c := wpAny_of_in1 (W.item vs s Q E a b c)
  done vs s Q E a b c := wpAny_of_in1 (W.done vs s Q E a b c)
  self vs s Q E a b := wpAny_of_in1 (W.self vs s Q E a b)
theorem drain_loop {R : Result → Shared → Prop} (W : Drain prog w A.in1 I n S St Fin) (hn : n ≤ sizeLine) (res : Value) :
    ∀ (k : Nat) (vs : List Value) (s : Shared) (c : Nat), n - vs.length = k → vs.length ≤ n → St vs s → s.heap.get? S = some { cls := .type "list", dict := none, data := .seq vs.toArray c, slots := #[] } →
    (∀ s' vs' c', vs'.length = n → Fin vs' s' → s'.heap.get? S = some { cls := .type "list", dict := none, data := .seq vs'.toArray c', slots := #[] } → R (.ok (.ret res)) s') →
    codeAny (model prog w) A (.builtin "list.extend.loop" ⟨[.ref S, .ref I, res], []⟩) R s := by
  intro k
  induction k with
  | zero =>
    intro vs s c hk hi hst hS hR
    have hin : vs.length = n := by omega
    refine codeAny_builtin PySem.F.entry_extend_loop ?_
    rw [Around.under_plainId PySem.F.plain_extend_loop _]
    show wpAny _ A.in1 (pyNext (.ref I) >>= _) _ _ s
    refine wpAny_bind (W.done vs s _ _ hin hst fun s' hf hk' => ?_)
    exact wpAny_pure (hR s' vs c hin hf (hk' _ hS))
  | succ k ih =>
    intro vs s c hk hi hst hS hR
    have hlt : vs.length < n := by omega
    refine codeAny_builtin PySem.F.entry_extend_loop ?_
    rw [Around.under_plainId PySem.F.plain_extend_loop _]
    show wpAny _ A.in1 (pyNext (.ref I) >>= _) _ _ s
    refine wpAny_bind (W.item vs s _ _ hlt hst fun v s' hst' hk' => ?_)
    have hS' := hk' _ hS
    show wpAny _ A.in1 (updateSeq S (·.push v) >>= _) _ _ _
    refine wpAny_bind ?_
    refine wpAny_updateSeq hS' rfl (wpAny_pure ⟨plainId_quiet PySem.F.plain_extend_loop _, ih (vs ++ [v]) _ (c + 1) (by rw [List.length_append]; simp; omega) (by rw [List.length_append]; simp; omega) (W.frame _ s' _ hst' (fun b o hb e => (Heap.get?_update_other _ _ (Ne.symm hb)).trans e) (Heap.size_after_update ..) ⟨_, Heap.get?_update_self _ hS' rfl⟩) ?_ hR⟩)
      (by simp; omega) (by simp; omega)
    refine (Heap.get?_update_self _ hS' rfl).trans ?_
    simp [Obj.mapSeq]
end
section
variable {prog : Program} {w : World} {A : Around} {E : Value → Shared → Prop} {s : Shared} {I : Addr} {n : Nat} {St Fin : List Value → Shared → Prop}
theorem drain_collect {Q : List Value → Shared → Prop} (W : Drain prog w A.in1 I n s.heap.objs.size St Fin) (hst : ∀ h', (∀ b o, s.heap.get? b = some o → h'.get? b = some o) → h'.objs.size = s.heap.objs.size + 1 → (∃ o, h'.get? s.heap.objs.size = some o) → St [] { s with heap := h' })
    (hQ : ∀ s' vs c, vs.length = n → Fin vs s' → s'.heap.get? s.heap.objs.size = some { cls := .type "list", dict := none, data := .seq vs.toArray c, slots := #[] } → Q vs s') (hn : n ≤ sizeLine := by size_fits) : wpAny (model prog w) A (collect (.ref I)) Q E s := by
  unfold collect
  refine wpAny_bind (wpAny_runValue (codeAny_builtin PySem.F.entry_proto_collect ?_))
  rw [Around.under_plainId PySem.F.plain_proto_collect _]
  show wpAny _ A.in1 (newList [] >>= fun l => again (.builtin "list.__iadd__" ⟨[l, .ref I], []⟩)) _ _ s
  refine wpAny_bind (wpAny_newObj_type ?_)
  refine wpAny_pure ⟨plainId_quiet PySem.F.plain_list_iadd _, codeAny_builtin PySem.F.entry_list_iadd ?_⟩
  rw [Around.under_plainId PySem.F.plain_list_iadd _]
  have hst₁ := hst (s.heap.push { cls := .type "list", data := .seq ([] : List Value).toArray }) (fun b o e => Heap.get?_push_of_some _ e) (Heap.size_push ..) ⟨_, Heap.get?_push_size _ rfl⟩
  show wpAny _ A.in1 (Builtin.List.listExtendWith (.ref s.heap.objs.size) (.ref I) (.ref s.heap.objs.size)) _ _ _
  unfold Builtin.List.listExtendWith
  refine wpAny_bind (wpAny_typeOf (W.typ _ _ hst₁) ?_)
  have h1 : Builtin.List.listSameRef (.ref s.heap.objs.size) (.ref I) = false := by simp [Builtin.List.listSameRef, W.ne]
  have h2 : (Value.type "generator" == Value.type "list") = false := by decide
  have h3 : (Value.type "generator" == Value.type "tuple") = false := by decide
  simp only [h1, h2, h3, Bool.or_false, Bool.false_eq_true, if_false]
  refine wpAny_bind (W.self _ _ _ _ hst₁ ?_)
  refine wpAny_bind (wpAny_holding ?_)
  unfold Builtin.List.listLengthHint
  refine wpAny_bind (wpAny_specialOf (W.typ _ _ hst₁) PySem.F.gen_no_len ?_)
  show wpAny _ A.in1 (specialOf (Value.ref I) (Str.ofString "__length_hint__") >>= _) _ _ _
  refine wpAny_bind (wpAny_specialOf (W.typ _ _ hst₁) PySem.F.gen_no_hint ?_)
  refine wpAny_pure ?_
  show wpAny _ A.in1 (rule "list.extend.makes-room" >>= fun _ => Builtin.List.listTouch (.ref s.heap.objs.size) >>= fun _ =>
    again (.builtin "list.extend.loop" ⟨[.ref s.heap.objs.size, .ref I, .ref s.heap.objs.size], []⟩)) _ _ _
  refine wpAny_bind (wpAny_rule ?_)
  have hS₁ : (s.heap.push { cls := .type "list", data := .seq ([] : List Value).toArray }).get? s.heap.objs.size = some { cls := .type "list", data := .seq ([] : List Value).toArray } := Heap.get?_push_size _ rfl
  refine wpAny_bind ?_
  show wpAny _ A.in1 (updateSeq s.heap.objs.size (·.push .none) >>= fun _ => updateSeq s.heap.objs.size (·.pop)) _ _ _
  refine wpAny_bind (wpAny_updateSeq hS₁ rfl ?_)
  have hS₂ := Heap.get?_update_self (Obj.mapSeq (·.push Value.none)) hS₁ rfl
  refine wpAny_updateSeq hS₂ rfl ?_
  have hS₃ := Heap.get?_update_self (Obj.mapSeq (·.pop)) hS₂ rfl
  have hst₂ := W.frame _ _ ((s.heap.push { cls := .type "list", data := .seq ([] : List Value).toArray }).update s.heap.objs.size (Obj.mapSeq (·.push Value.none))) hst₁ (fun b o hb e => (Heap.get?_update_other _ _ (Ne.symm hb)).trans e) (Heap.size_after_update ..) ⟨_, hS₂⟩
  have hst₃ := W.frame _ _ (((s.heap.push { cls := .type "list", data := .seq ([] : List Value).toArray }).update s.heap.objs.size (Obj.mapSeq (·.push Value.none))).update s.heap.objs.size (Obj.mapSeq (·.pop))) hst₂ (fun b o hb e => (Heap.get?_update_other _ _ (Ne.symm hb)).trans e) (Heap.size_after_update ..) ⟨_, hS₃⟩
  refine wpAny_pure ⟨plainId_quiet PySem.F.plain_extend_loop _, drain_loop W hn _ n [] _ _ rfl (Nat.zero_le _) hst₃ hS₃ fun s' vs c hl hf hS' => ?_⟩
  · show wpAny _ A (load s.heap.objs.size >>= _) _ _ s'
    refine wpAny_bind (wpAny_load hS' ?_)
    exact wpAny_pure (hQ s' vs c hl hf hS')
theorem drain_new {Q₁ : Value → Shared → Prop} (W : Drain prog w A.in1.in1 I n s.heap.objs.size St Fin) (hT : s.TypeIs (.ref I) "generator") (hst : ∀ h', (∀ b o, s.heap.get? b = some o → h'.get? b = some o) → h'.objs.size = s.heap.objs.size + 1 → (∃ o, h'.get? s.heap.objs.size = some o) → St [] { s with heap := h' })
    (h : ∀ s' vs, vs.length = n → Fin vs s' → Q₁ (.ref s'.heap.objs.size) { s' with heap := s'.heap.push { cls := .type "tuple", data := .seq vs.toArray } }) (hsz : n ≤ sizeLine := by size_fits) :
    codeAny (model prog w) A (.call (.builtin "tuple.__new__") ⟨[.type "tuple", .ref I], []⟩) (wants Q₁ E) s := by
  refine codeAny_of_tree ?_
  show wpAny _ A.in1 (do checkBuiltinCall "tuple.__new__" ⟨[.type "tuple", .ref I], []⟩; again (.builtin "tuple.__new__" ⟨[.type "tuple", .ref I], []⟩)) _ _ s
  refine wpAny_bind (wpAny_of_eq (PySem.F.newCall_tuple_1 _) (wpAny_pure ⟨plainId_quiet PySem.F.plain_tuple_new _, codeAny_builtin PySem.F.entry_tuple_new ?_⟩))
  rw [Around.under_plainId PySem.F.plain_tuple_new _]
  have hsub := sub_tuple_self
  have hinit := init_tuple_lookup
  have hmh := madeHere_tuple
  wp_walk using wpAny_typeOf hT, drain_collect (hn := hsz) W hst
  intro s' vs c hl hf hS
  show wpAny _ _ (Builtin.Tuple.tupleExact vs.toArray >>= fun v => ret v) _ _ _
  unfold Builtin.Tuple.tupleExact
  refine wpAny_bind (wpAny_newObj_type ?_ (by show vs.toArray.size ≤ sizeLine; simp only [List.size_toArray]; rw [hl]; exact hsz))
  exact wpAny_pure (h s' vs hl hf)
/-- tuple(gen) -/
theorem drain_tuple {Q : Value → Shared → Prop} (W : Drain prog w A.in1.in1.in1 I n s.heap.objs.size St Fin) (hT : s.TypeIs (.ref I) "generator") (hst : ∀ h', (∀ b o, s.heap.get? b = some o → h'.get? b = some o) → h'.objs.size = s.heap.objs.size + 1 → (∃ o, h'.get? s.heap.objs.size = some o) → St [] { s with heap := h' })
    (hQ : ∀ s' vs, vs.length = n → Fin vs s' → Q (.ref s'.heap.objs.size) { s' with heap := s'.heap.push { cls := .type "tuple", data := .seq vs.toArray } }) (hsz : n ≤ sizeLine := by size_fits) :
    wpAny (model prog w) A (call (.type "tuple") [.ref I]) Q E s := by
  refine callType_codes (Q₁ := fun obj s₁ => s₁.TypeIs obj "tuple" ∧ Q obj s₁) PySem.F.called_tuple (PySem.F.typeCall_tuple_1 _) PySem.F.entry_object_init
    (drain_new (hsz := hsz) W hT hst fun s' vs hl hf => ⟨⟨_, Heap.get?_push_size _ rfl, rfl⟩, hQ s' vs hl hf⟩) fun obj s₁ h₁ => ?_
  exact ⟨h₁.1, PySem.F.args_object_init_2 obj _, object_init_meets PySem.F.called_tuple.init.lookup PySem.F.called_tuple.made (by decide) prog w A.in1 _ s₁ ⟨h₁.1, rfl, h₁.2⟩⟩
end
end VJ
end

section
open PySem PySem.W PyProof.Rows PySem.Calls
namespace VJ
set_option maxRecDepth 100000
/-- the same state but for the list that is being filled and the generator's own record -/
structure Like (S : Addr) (g : Nat) (s s' : Shared) : Prop where
  heap : ∀ b o, b ≠ S → s.heap.get? b = some o → s'.heap.get? b = some o
  size : s'.heap.objs.size = s.heap.objs.size
  gsize : s'.gens.size = s.gens.size
  gens : ∀ k, k ≠ g → s'.gens[k]? = s.gens[k]?
  drawn : s'.drawn = s.drawn
  os : s'.os = s.os
  alive : (∃ o, s.heap.get? S = some o) → ∃ o, s'.heap.get? S = some o
theorem Like.refl (S : Addr) (g : Nat) (s : Shared) : Like S g s s := ⟨fun _ _ _ e => e, rfl, rfl, fun _ _ => rfl, rfl, rfl, fun h => h⟩
theorem Like.trans {S : Addr} {g : Nat} {a b c : Shared} (x : Like S g a b) (y : Like S g b c) : Like S g a c :=
  ⟨fun d o h e => y.heap d o h (x.heap d o h e), y.size.trans x.size, y.gsize.trans x.gsize, fun k h => (y.gens k h).trans (x.gens k h), y.drawn.trans x.drawn, y.os.trans x.os, fun h => y.alive (x.alive h)⟩
theorem Like.setGen (S : Addr) (g : Nat) (s : Shared) (x : GenState) : Like S g s (s.setGen g x) :=
  ⟨fun _ _ _ e => e, rfl, by simp [Shared.setGen], fun k h => by simp [Shared.setGen, Ne.symm h], rfl, rfl, fun h => h⟩
def KeepS (S : Addr) (s s' : Shared) : Prop := ∀ o, s.heap.get? S = some o → s'.heap.get? S = some o
/-- what a turn of the generator does -/
structure Turns (prog : Program) (w : World) (A : Around) (elt iter : PySem.Expr) (x : Str) (px : Pos) (scope : Scope) (pos : Pos) (I : Addr) (cenv : Env) (S : Addr) (g : Nat) (vals : List Value) (J : Nat → Shared → Prop) (Fin : Shared → Prop) : Prop where
  hh : A.handled = none
  kx : cenv.kindOf x = some .local
  kk : (cenv.scope.kind == .class || (cenv.scope.kind == .module && cenv.locals != cenv.globals)) = false
  kc : cenv.scope.isCoroutine = false
  like : ∀ i s s', J i s → Like S g s s' → J i s'
  lim : ∀ i s, J i s → s.heap.NoLimit
  item : ∀ i (s : Shared) (y : Value), vals[i]? = some y → J i s → wpAny (model prog w) (A.over (.compLoop (.GeneratorExp elt [⟨.Name x px, iter, [], 0⟩] scope pos) 0 (.ref I) .none cenv) []) (pyNext (.ref I))
    (fun r s₁ => ∃ v, r = some v ∧ wpAny (model prog w) (A.over (.compLoop (.GeneratorExp elt [⟨.Name x px, iter, [], 0⟩] scope pos) 0 (.ref I) .none cenv) []) (storeName cenv x v)
      (fun _ s₂ => wpAny (model prog w) (A.over (.compLoop (.GeneratorExp elt [⟨.Name x px, iter, [], 0⟩] scope pos) 0 (.ref I) .none cenv) []) (eval elt cenv) (fun r s₃ => r = y ∧ J (i + 1) s₃ ∧ KeepS S s s₃) (fun _ _ => False) s₂) (fun _ _ => False) s₁) (fun _ _ => False) s
  done : ∀ s, J vals.length s → wpAny (model prog w) (A.over (.compLoop (.GeneratorExp elt [⟨.Name x px, iter, [], 0⟩] scope pos) 0 (.ref I) .none cenv) []) (pyNext (.ref I)) (fun r s₁ => r = none ∧ Fin s₁ ∧ KeepS S s s₁) (fun _ _ => False) s
abbrev genEnd (S : Addr) (Fin : Shared → Prop) : GenEnd := fun n s₀ r s₁ => r = .ok .next ∧ (n = 0 ∧ Fin s₁ ∧ KeepS S s₀ s₁)
def genProt (S : Addr) (g : Nat) (vals : List Value) (J : Nat → Shared → Prop) : Protocol := fun m s₀ v s kap =>
  m + 1 ≤ vals.length ∧ vals[vals.length - 1 - m]? = some v ∧ J (vals.length - m) s ∧ KeepS S s₀ s ∧ ∀ s'' : Shared, Like S g s s'' → kap (.send .none) s''
section
variable {prog : Program} {w : World} {A : Around} {elt iter : PySem.Expr} {x : Str} {px : Pos} {scope : Scope} {pos : Pos} {I : Addr} {cenv : Env} {S : Addr} {g : Nat} {vals : List Value} {J : Nat → Shared → Prop} {Fin : Shared → Prop}
theorem seg_turns (W : Turns prog w A elt iter x px scope pos I cenv S g vals J Fin) : ∀ (k i : Nat) (s₀ s : Shared), vals.length - i = k → i ≤ vals.length → J i s → KeepS S s₀ s →
    Seg (model prog w) A (genEnd S Fin) (genProt S g vals J) k s₀ (.compLoop (.GeneratorExp elt [⟨.Name x px, iter, [], 0⟩] scope pos) 0 (.ref I) .none cenv)
      ((model prog w).den (.compLoop (.GeneratorExp elt [⟨.Name x px, iter, [], 0⟩] scope pos) 0 (.ref I) .none cenv)) [] s := by
  intro k
  induction k with
  | zero =>
    intro i s₀ s hk hi hJ hK
    obtain rfl : i = vals.length := by omega
    show Seg _ A _ _ _ s₀ _ ((compTurn (.GeneratorExp elt [⟨.Name x px, iter, [], 0⟩] scope pos) 0 (.ref I) .none cenv).onRaise (leaving cenv)) [] s
    rw [compTurn_gen, Sem.onRaise_eq_wrap]
    refine seg_bind_wrap (wpAny_standAt ?_)
    refine seg_bind_wrap (wpAny_mono (W.done s hJ) (fun r s₁ h₁ => ?_) fun _ _ e => e.elim)
    obtain ⟨rfl, hF, hK'⟩ := h₁
    exact seg_end (.ok .next) ⟨rfl, rfl, hF, fun o e => hK' o (hK o e)⟩
  | succ k ih =>
    intro i s₀ s hk hi hJ hK
    have hlt : i < vals.length := by omega
    obtain ⟨y, hy⟩ : ∃ y, vals[i]? = some y := ⟨vals[i], List.getElem?_eq_getElem hlt⟩
    show Seg _ A _ _ _ s₀ _ ((compTurn (.GeneratorExp elt [⟨.Name x px, iter, [], 0⟩] scope pos) 0 (.ref I) .none cenv).onRaise (leaving cenv)) [] s
    rw [compTurn_gen, Sem.onRaise_eq_wrap]
    refine seg_bind_wrap (wpAny_standAt ?_)
    refine seg_bind_wrap (wpAny_mono (W.item i s y hy hJ) (fun r s₁ h₁ => ?_) fun _ _ e => e.elim)
    obtain ⟨v, rfl, h₁⟩ := h₁
    refine seg_bind_wrap (wpAny_of_eq (rfl : letOwnedTupleGo (.Name x px) (.ref I) v = pure ()) ?_)
    refine seg_bind_wrap (wpAny_mono (Q := fun _ s₂ => wpAny (model prog w) (A.over (.compLoop (.GeneratorExp elt [⟨.Name x px, iter, [], 0⟩] scope pos) 0 (.ref I) .none cenv) []) (eval elt cenv) (fun r s₃ => r = y ∧ J (i + 1) s₃ ∧ KeepS S s s₃) (fun _ _ => False) s₂) (E := fun _ _ => False) (wpAny_assign_Name h₁) (fun _ s₂ h₂ => ?_) fun _ _ e => e.elim)
    refine seg_bind_wrap (wpAny_pure ?_)
    simp only [if_true]
    have hyo : ∀ v, yieldOut cenv v = yieldValue v := fun v => by simp only [yieldOut, W.kc, Bool.false_eq_true, if_false]
    simp only [hyo]
    rw [Sem.bind_eq_wrap', Sem.bind_eq_wrap', Sem.wrap_wrap, Sem.wrap_wrap]
    refine seg_wrap (wpAny_mono h₂ (fun r s₃ h₃ => ?_) fun _ _ e => e.elim)
    obtain ⟨rfl, hJ', hK'⟩ := h₃
    refine seg_at (seg_yield rfl rfl rfl ⟨by omega, ?_, ?_, fun o e => hK' o (hK o e), fun s'' hl => ?_⟩)
    · rw [show vals.length - 1 - k = i by omega]; exact hy
    · rw [show vals.length - k = i + 1 by omega]; exact hJ'
    · exact seg_again rfl (ih (i + 1) s'' s'' (by omega) (by omega) (W.like _ _ _ hJ' hl) fun _ e => e)
theorem seg_start (W : Turns prog w A elt iter x px scope pos I cenv S g vals J Fin) (hself : ∀ (s : Shared) (Q : Value → Shared → Prop), J 0 s → Q (.ref I) s → wpAny (model prog w) (A.over (.compStart (.GeneratorExp elt [⟨.Name x px, iter, [], 0⟩] scope pos) 0 (.ref I) .none cenv) []) (pyIter (.ref I)) Q (fun _ _ => False) s) (s : Shared) (hJ : J 0 s) :
    Seg (model prog w) A (genEnd S Fin) (genProt S g vals J) vals.length s (.compStart (.GeneratorExp elt [⟨.Name x px, iter, [], 0⟩] scope pos) 0 (.ref I) .none cenv)
      ((model prog w).den (.compStart (.GeneratorExp elt [⟨.Name x px, iter, [], 0⟩] scope pos) 0 (.ref I) .none cenv)) [] s := by
  have loop := seg_turns W vals.length 0 s s (Nat.sub_zero _) (Nat.zero_le _) hJ fun _ e => e
  show Seg _ A _ _ _ s _ ((compStart (.GeneratorExp elt [⟨.Name x px, iter, [], 0⟩] scope pos) 0 (.ref I) .none cenv).onRaise (leaving cenv)) [] s
  unfold compStart
  rw [Sem.onRaise_eq_wrap]
  show Seg _ A _ _ _ s _ ((ask >>= _).wrap _ _ _ _) [] s
  refine seg_bind_wrap (wpAny_askSetting ?_)
  split
  · exact seg_again rfl loop
  · refine seg_bind_wrap (wpAny_rule ?_)
    show Seg _ A _ _ _ s _ ((standAt iter.pos >>= _).wrap _ _ _ _) [] s
    exact seg_bind_wrap (wpAny_standAt (seg_bind_wrap (wpAny_mono (hself s _ hJ (seg_again rfl loop)) (fun _ _ h => h) fun _ _ e => e.elim)))
end
section
variable {prog : Program} {w : World} {A : Around} {elt iter : PySem.Expr} {x : Str} {px : Pos} {scope : Scope} {pos : Pos} {I a : Addr} {cenv : Env} {S : Addr} {g : Nat} {vals : List Value} {J : Nat → Shared → Prop} {Fin : Shared → Prop}
def GenSt (prog : Program) (w : World) (A : Around) (a S : Addr) (g : Nat) (vals : List Value) (J : Nat → Shared → Prop) (Fin : Shared → Prop) (vs : List Value) (s : Shared) : Prop :=
  vs = vals.take vs.length ∧ J vs.length s ∧ ∃ gs, s.gens[g]? = some gs ∧ ∀ s'' : Shared, Like S g s s'' → gs.Goes (model prog w) A.in1 (genEnd S Fin) (genProt S g vals J) (vals.length - vs.length) (.send .none) s''
def GenFin (g : Nat) (vals : List Value) (Fin : Shared → Prop) (vs : List Value) (s : Shared) : Prop :=
  vs = vals ∧ ∃ s₁, Fin s₁ ∧ ∃ h', (∀ b o, s₁.heap.get? b = some o → h'.get? b = some o) ∧ s = { s₁.setGen g .finished with heap := h' }
theorem drain_gen (W : Turns prog w A.in1 elt iter x px scope pos I cenv S g vals J Fin) (hh : A.handled = none) (hroom : A.depth < recursionLimit) (isg : ∀ i s, J i s → s.heap.IsGen a g) (gsz : ∀ i s, J i s → g < s.gens.size) (hS : S ≠ a) :
    Drain prog w A a vals.length S (GenSt prog w A a S g vals J Fin) (GenFin g vals Fin) where
  frame vs s h' st hk hz hal := by
    have hl : Like S g s { s with heap := h' } := ⟨hk, hz, rfl, fun _ _ => rfl, rfl, rfl, fun _ => hal⟩
    obtain ⟨e, hJ, gs, hgs, hgo⟩ := st
    exact ⟨e, W.like _ _ _ hJ hl, gs, hgs, fun s'' hl' => hgo s'' (hl.trans hl')⟩
  typ vs s st := (isg _ _ st.2.1).typeIs
  ne := hS
  item vs s Q E hlt st hQ := by
    obtain ⟨e, hJ, gs, hgs, hgo⟩ := st
    obtain ⟨m, hm⟩ : ∃ m, vals.length - vs.length = m + 1 := ⟨vals.length - vs.length - 1, by omega⟩
    rw [hm] at hgo
    refine wpAny_pyNext_genexp (P := fun n s₀ s₁ => n = 0 ∧ Fin s₁ ∧ KeepS S s₀ s₁) hh (W.lim _ _ hJ) hroom (isg _ _ hJ) hgs (hgo _ (Like.setGen ..)) (fun v s₁ gs' hv => ?_) (fun s₁ hp h' hk => ?_)
    · obtain ⟨h1, h2, h3, h4, h5⟩ := hv
      have e1 : vals.length - 1 - (m + 1 - 1) = vs.length := by omega
      have e2 : vals.length - (m + 1 - 1) = vs.length + 1 := by omega
      rw [e1] at h2
      rw [e2] at h3
      have el : (vs ++ [v]).length = vs.length + 1 := by simp
      refine hQ v _ ⟨?_, ?_, gs', ?_, fun s'' hl => ?_⟩ h4
      · rw [el, List.take_add_one, h2, ← e]; rfl
      · rw [el]; exact W.like _ _ _ h3 (Like.setGen ..)
      · have := gsz _ _ h3
        simp [Shared.setGen, this]
      · rw [el, show vals.length - (vs.length + 1) = m by omega]
        exact h5 s'' ((Like.setGen S g s₁ gs').trans hl)
    · exact absurd hp.1 (Nat.succ_ne_zero m)
  done vs s Q E hl st hQ := by
    obtain ⟨e, hJ, gs, hgs, hgo⟩ := st
    rw [hl, Nat.sub_self] at hgo
    have ev : vs = vals := by rw [e, hl]; exact List.take_length
    refine wpAny_pyNext_genexp (P := fun n s₀ s₁ => n = 0 ∧ Fin s₁ ∧ KeepS S s₀ s₁) hh (W.lim _ _ hJ) hroom (isg _ _ hJ) hgs (hgo _ (Like.setGen ..)) (fun v s₁ gs' hv => ?_) (fun s₁ hp h' hk => ?_)
    · obtain ⟨_, _, _, _, hkap⟩ := hv
      exact (hkap s₁ (Like.refl ..)).elim
    · obtain ⟨_, hF, hK⟩ := hp
      exact hQ _ ⟨ev, s₁, hF, h', hk, rfl⟩ fun o ho => hk _ _ (hK o ho)
  self vs s Q E st hQ := wpAny_pyIter_gen (isg _ _ st.2.1) hQ
end
end VJ
end

section
open PySem PySem.W PyProof.Rows PySem.Calls
namespace VJ
set_option maxRecDepth 100000
/-- generators come, and old ones stay as they are -/
structure GensOk (a b : Array GenState) : Prop where
  size : a.size ≤ b.size
  old : ∀ j, j < a.size → b[j]? = a[j]?
  bare : ∀ j x, a.size ≤ j → b[j]? = some x → x.bare = true
theorem GensOk.refl (a : Array GenState) : GensOk a a := ⟨Nat.le_refl _, fun _ _ => rfl, fun j x h e => by
  have := (Array.getElem?_eq_some_iff.mp e).1; omega⟩
theorem GensOk.trans {a b c : Array GenState} (x : GensOk a b) (y : GensOk b c) : GensOk a c :=
  ⟨Nat.le_trans x.size y.size, fun j h => (y.old j (Nat.lt_of_lt_of_le h x.size)).trans (x.old j h), fun j z h e => by
    by_cases hj : j < b.size
    · rw [y.old j hj] at e; exact x.bare j z h e
    · exact y.bare j z (by omega) e⟩
/-- the contract of a def that makes generators and drains them -/
def ToldG (prog : Program) (w : World) (f : Addr) (vs : List Value) (dn un : Nat) (news : List (Addr × Obj)) (Ret : Value → List (Addr × Obj) → Prop) : Prop :=
  ∀ (A : Around) (env : Env) (outer : List Env) (base G : Heap) (p : Program) (loose : List Str) (mean : ExcName → Option Value) (mg mb : Str → Option Value) (s : Shared) (Q E : Value → Shared → Prop),
    Below A base (env :: outer) G → (K9 w.params).In G → Top p loose mean mg mb G → A.handled = none → A.depth + dn < recursionLimit → A.units + un < cLine →
    (∀ b o, G.get? b = some o → s.heap.get? b = some o) → G.objs.size ≤ s.heap.objs.size → Led G s.heap news →
    (∀ r news' h' tk' gs', (∀ b o, G.get? b = some o → h'.get? b = some o) → Led G h' news' → GensOk s.gens gs' → Ret r news' → Q r { s with heap := h', toks := tk', gens := gs' }) →
    wpAny (model prog w) A (call (.ref f) vs) Q E s
section
variable {prog : Program} {w : World} {A A₀ : Around} {env : Env} {outer : List Env} {base h₀ G h : Heap} {p : Program} {loose : List Str} {mean : ExcName → Option Value} {mg mb : Str → Option Value} {s : Shared} {Q E : Value → Shared → Prop}
  {L f : Addr} {m : Str → Option Value} {vs : List Value} {dn un : Nat} {news xs : List (Addr × Obj)} {Ret : Value → List (Addr × Obj) → Prop}
theorem ToldG.of_told (T : Told prog w f vs dn un news Ret (fun _ => False)) : ToldG prog w f vs dn un news Ret :=
  fun A env outer base G p loose mean mg mb s Q E B X TT hh hd hu hk hz N ret => T A env outer base G p loose mean mg mb s Q E B X TT hh hd hu hk hz N (fun r news' h' tk' a b c => ret r news' h' tk' s.gens a b (GensOk.refl _) c) fun _ _ _ _ _ _ _ _ h => h.elim
theorem toldG_use (C : ToldG prog w f vs dn un news Ret) (B : Below A₀ base outer h₀) (F : Fr h₀ L s.heap m) (X : (K9 w.params).In h₀) (N : News h₀ L s.heap (xs ++ news)) (T : Top p loose mean mg mb h₀)
    (hA : A.frames = some (env :: outer)) (hf : env.frame = some L) (hke : env.scope.kind = .function) (hh : A.handled = none) (hd : A.depth + dn < recursionLimit) (hu : A.units + un < cLine)
    (ap : ∀ q ∈ xs, ∀ r ∈ news, q.1 ≠ r.1)
    (ret : ∀ r news' h' tk' gs', Fr h₀ L h' m → News h₀ L h' (xs ++ news') → (∀ q ∈ xs, ∀ r ∈ news', q.1 ≠ r.1) → GensOk s.gens gs' → Ret r news' → (∀ b o, s.heap.get? b = some o → (∀ q ∈ news, q.1 ≠ b) → h'.get? b = some o) → Q r { s with heap := h', toks := tk', gens := gs' }) :
    wpAny (model prog w) A (call (.ref f) vs) Q E s := by
  have Nn : News h₀ L s.heap news := fun p hp => N p (List.mem_append.mpr (.inr hp))
  have Nx : News h₀ L s.heap xs := fun p hp => N p (List.mem_append.mpr (.inl hp))
  have FG := ground_frame F Nn
  have st : h₀.StaysIn (groundOf s.heap news) := FG.keep
  obtain ⟨oL, es, ep, hLg, hLr⟩ := FG.ns
  have B₂ : Below A base (env :: outer) (groundOf s.heap news) := by
    refine ⟨hA, fun b o e => st b o (B.stays b o e), ?_⟩
    have nb : base.get? L = none := by
      cases q : base.get? L with
      | none => rfl
      | some o => exact absurd (Nat.lt_of_lt_of_le (Heap.lt_size (B.stays L o q)) F.above) (Nat.lt_irrefl _)
    exact .cons (by rw [hke]; decide) hf FG.ns nb (B.frames.of_keeps fun b o e _ => ⟨o, st b o e, rfl⟩)
  refine C A env outer base (groundOf s.heap news) p loose mean mg mb s Q E B₂ (Frag.In.keeps X st) (T.keeps st) hh hd hu (fun b o e => of_hideAll _ e) (Nat.le_of_eq (hideAll_size _ _))
    (fun q hq => ⟨(Nn q hq).1, hideAll_none _ (List.mem_map_of_mem hq)⟩) (fun r news' h' tk' gs' hk hl hg hr => ?_)
  have F' : Fr h₀ L h' m := ⟨⟨oL, es, ep, hk _ _ hLg, hLr⟩, fun b o e => hk _ _ (st b o e), F.above⟩
  have apx : ∀ q ∈ xs, (groundOf s.heap news).get? q.1 = some q.2 := fun q hq => hideAll_get _ (Nx q hq).1 fun z => by
    obtain ⟨r, hr, e⟩ := List.mem_map.mp z
    exact ap q hq r hr e.symm
  refine ret r news' h' tk' gs' F' (fun q hq => ?_) (fun q hq r hr e => ?_) hg hr fun b o e hb => hk b o (hideAll_get _ e fun z => ?_)
  · rcases List.mem_append.mp hq with hq | hq
    · exact ⟨hk _ _ (apx q hq), (Nx q hq).2⟩
    · refine ⟨(hl q hq).1, fun e => ?_, ?_⟩
      · have := (hl q hq).2; rw [e, hLg] at this; cases this
      · cases z : h₀.get? q.1 with
        | none => rfl
        | some o => have := (hl q hq).2; rw [st _ _ z] at this; cases this
  · have := (hl r hr).2; rw [← e, apx q hq] at this; cases this
  · obtain ⟨r, hr, e⟩ := List.mem_map.mp z
    exact hb r hr e
def BackG (G : Heap) (s : Shared) (Ret : Value → List (Addr × Obj) → Prop) (v : Value) (s' : Shared) : Prop :=
  ∃ news' h' tk' gs', s' = { s with heap := h', toks := tk', gens := gs' } ∧ (∀ b o, G.get? b = some o → h'.get? b = some o) ∧ Led G h' news' ∧ GensOk s.gens gs' ∧ Ret v news'
theorem toldG_defC {name qual : Str} {params : Arguments} {body : List Stmt} {scope : Scope} {dV kV doc pm cdv ct oc : Value} {an od : Option Addr} {osl : Array (Option Value)} {binds : List (Str × Value)}
    (ho : (K9 w.params).lookup f = some ⟨oc, od, .func (fnOf name qual params body scope dV kV doc pm an cdv ct), osl⟩) (hcd : codeIn (K9 w.params) cdv qual = true)
    (hbind : ∀ {G : Heap} {s : Shared}, (K9 w.params).In G → (∀ b o, G.get? b = some o → s.heap.get? b = some o) → BindsTo s (fnOf name qual params body scope dV kV doc pm an cdv ct) ⟨vs, []⟩ binds)
    (hkind : (binds.all fun y => scope.names.lookup y.1 == some .local || scope.names.lookup y.1 == some .cell) = true) (hnd : ((cellsFrom 0 scope.names []).map (·.1)).Nodup)
    (hb : ∀ (dp un' : Nat) (gd : Option (List Code)) (env : Env) (outer : List Env) (base G : Heap) (p : Program) (loose : List Str) (mean : ExcName → Option Value) (mg mb : Str → Option Value) (s : Shared) (L : Addr) (h₁ : Heap) (tk : Nat) (cells : List (Addr × Obj)),
      dp + dn < recursionLimit → un' + un < cLine → Fr G L h₁ (bindL (envOfC qual scope L f cdv).kindOf binds fun _ => none) → News G L h₁ (cells ++ news) → CellsAre (bindC (envOfC qual scope L f cdv).kindOf binds fun _ => none) (cellsFrom (L + 1) scope.names []) cells → (∀ q ∈ news, q.1 < L) →
      Below { handled := none, depth := dp, frames := some (env :: outer), guards := gd, units := un' } base (env :: outer) G → (K9 w.params).In G → Top p loose mean mg mb G →
      wpAny (model prog w) (Around.deeper { handled := none, depth := dp, frames := some (env :: outer), guards := gd, units := un' } (envOfC qual scope L f cdv)) (execs body (envOfC qual scope L f cdv))
        (fun fl s' => BackG G s Ret (match fl with | .ret v => v | _ => .none) s')
        (fun e s' => wpAny (model prog w) (Around.deeper { handled := none, depth := dp, frames := some (env :: outer), guards := gd, units := un' } (envOfC qual scope L f cdv)) (leaving (envOfC qual scope L f cdv) e) (fun _ _ => False) (fun _ _ => False) s')
        { s with heap := h₁, toks := tk })
    (hco : scope.isCoroutine = false := by rfl) (hgen : scope.isGenerator = false := by rfl) (hk : scope.kind = .function := by rfl) : ToldG prog w f vs dn un news Ret := by
  intro A env outer base G p loose mean mg mb s Q E B X T hh hd hu hk₀ hsz N ret
  obtain ⟨hnd', dp, fr, gd, un'⟩ := A
  obtain rfl : hnd' = none := hh
  obtain rfl : fr = some (env :: outer) := B.stack
  refine wpAny_call (codeAny_call_function (fd := fnOf name qual params body scope dV kV doc pm an cdv ct) (body := body) (Nat.lt_of_le_of_lt (Nat.le_add_right _ _) hd) (hk₀ _ _ (X _ _ ho)) rfl hco hgen rfl (codeRec_of (Frag.In.keeps X hk₀) hcd) (hbind X hk₀ _ _ _ _ ?_))
  refine wpAny_newFunctionEnv_cells hk (kindsX hkind _) fun env' he s' x => ?_
  subst he
  refine ⟨(T.nolimit.keeps hk₀).keeps x.toInCall.keep, codeAny_func ?_⟩
  obtain ⟨h₁, tk, rfl, _⟩ := x.done
  have hk₁ := x.toInCall.keep
  obtain ⟨cells, NC, Y⟩ := Cl.news (h₀ := s.heap) (Nat.le_refl _) fun n c hm => ⟨x.cell n c (lookup_of_mem_nodup (cellsFrom_names scope.names 0 (s.heap.objs.size + 1) [] [] rfl ▸ hnd) hm), x.above n c hm⟩
  refine wpAny_mono (hb dp un' gd env outer base G p loose mean mg mb s s.heap.objs.size h₁ tk cells hd hu ⟨x.toInCall.ns, fun b o e => hk₁ b o (hk₀ b o e), hsz⟩ (fun q hq => ?_) Y (fun q hq => Heap.lt_size (N q hq).1) B X T) (fun fl s' z => ?_) fun e s' z => ?_
  · rcases List.mem_append.mp hq with hq | hq
    · refine ⟨(NC q hq).1, (NC q hq).2.1, ?_⟩
      cases z : G.get? q.1 with
      | none => rfl
      | some o => have := hk₀ _ _ z; rw [(NC q hq).2.2] at this; cases this
    · exact ⟨hk₁ _ _ (N q hq).1, Nat.ne_of_lt (Heap.lt_size (N q hq).1), (N q hq).2⟩
  · obtain ⟨news', h', tk', gs', rfl, hk', N', hg, hr⟩ := z
    exact ret _ _ _ _ _ hk' N' hg hr
  · exact wpAny_mono z (fun _ _ z => z.elim) fun _ _ z => z.elim
end
end VJ
end

section
open PySem PySem.W PyProof.Rows PySem.Calls
namespace VJ
/-! The plain law: one reading of a set of pieces, with a memory that marks what is in progress. -/
inductive Ask where
  | word (x : Str)
  | many (one : Nat) (least most : Int)
  | look (one : Nat) (neg : Bool)
  | choice (one two : Nat)
  | chain (one two : Nat)
abbrev Memo := Nat → Nat → Option Int
def Memo.set (mm : Memo) (k p : Nat) (v : Int) : Memo := fun j q => if j = k ∧ q = p then some v else mm j q
/-- a reading under way: of a piece through the memory, of a piece itself, of a loop -/
inductive Ways where
  | rd (k p : Nat)
  | as (k p : Nat)
  | mn (one : Nat) (least most : Int) (c : Int) (p : Nat)
inductive R (P : Nat → Ask) (at_ : Str → Nat → Bool) (len : Nat) : Memo → Ways → Int → Memo → Prop where
  | told {mm k p v} : mm k p = some v → R P at_ len mm (.rd k p) v mm
  | ask {mm k p v mm'} : mm k p = none → R P at_ len (mm.set k p (-2)) (.as k p) v mm' → R P at_ len mm (.rd k p) v (mm'.set k p v)
  | wordY {mm k p x} : P k = .word x → at_ x p = true → R P at_ len mm (.as k p) ((p + x.length : Nat) : Int) mm
  | wordN {mm k p x} : P k = .word x → at_ x p = false → R P at_ len mm (.as k p) (-1) mm
  | look {mm k p one neg e mm'} : P k = .look one neg → R P at_ len mm (.rd one p) e mm' → e ≠ -2 → R P at_ len mm (.as k p) (if decide (e = -1) = neg then (p : Int) else -1) mm'
  | lookX {mm k p one neg mm'} : P k = .look one neg → R P at_ len mm (.rd one p) (-2) mm' → R P at_ len mm (.as k p) (-2) mm'
  | choice1 {mm k p one two e mm'} : P k = .choice one two → R P at_ len mm (.rd one p) e mm' → e ≠ -1 → R P at_ len mm (.as k p) e mm'
  | choice2 {mm k p one two e mm' mm''} : P k = .choice one two → R P at_ len mm (.rd one p) (-1) mm' → R P at_ len mm' (.rd two p) e mm'' → R P at_ len mm (.as k p) e mm''
  | chain1 {mm k p one two e mm'} : P k = .chain one two → R P at_ len mm (.rd one p) e mm' → e < 0 → R P at_ len mm (.as k p) e mm'
  | chain2 {mm k p one two mm' e mm''} {q : Nat} : P k = .chain one two → R P at_ len mm (.rd one p) (q : Int) mm' → R P at_ len mm' (.rd two q) e mm'' → R P at_ len mm (.as k p) e mm''
  | many {mm k p one least most v mm'} : P k = .many one least most → R P at_ len mm (.mn one least most 0 p) v mm' → R P at_ len mm (.as k p) v mm'
  | stop {mm one least most c p} : (len ≤ p ∨ c = most) → R P at_ len mm (.mn one least most c p) (if least ≤ c then (p : Int) else -1) mm
  | none {mm one least most c p mm'} : ¬ (len ≤ p ∨ c = most) → R P at_ len mm (.rd one p) (-1) mm' → R P at_ len mm (.mn one least most c p) (if least ≤ c then (p : Int) else -1) mm'
  | manyX {mm one least most c p mm'} : ¬ (len ≤ p ∨ c = most) → R P at_ len mm (.rd one p) (-2) mm' → R P at_ len mm (.mn one least most c p) (-2) mm'
  | still {mm one least most c p mm'} : ¬ (len ≤ p ∨ c = most) → R P at_ len mm (.rd one p) (p : Int) mm' → least ≤ c + 1 → R P at_ len mm (.mn one least most c p) (p : Int) mm'
  | more {mm one least most c p mm' v mm''} {q : Nat} : ¬ (len ≤ p ∨ c = most) → R P at_ len mm (.rd one p) (q : Int) mm' → ¬ (least ≤ c + 1 ∧ q = p) → R P at_ len mm' (.mn one least most (c + 1) q) v mm'' →
      R P at_ len mm (.mn one least most c p) v mm''

section
variable {P : Nat → Ask} {at_ : Str → Nat → Bool} {len : Nat}
theorem R.det {mm mm' : Memo} {q : Ways} {v : Int} (h : R P at_ len mm q v mm') : ∀ {v2 : Int} {mm2 : Memo}, R P at_ len mm q v2 mm2 → v = v2 ∧ mm' = mm2 := by
  induction h with
  | told a =>
    intro v2 mm2 h2
    cases h2 with
    | told b => rw [a] at b; cases b; exact ⟨rfl, rfl⟩
    | ask b _ => rw [a] at b; cases b
  | ask a _ ih =>
    intro v2 mm2 h2
    cases h2 with
    | told b => rw [a] at b; cases b
    | ask _ b => obtain ⟨rfl, rfl⟩ := ih b; exact ⟨rfl, rfl⟩
  | wordY a a' =>
    intro v2 mm2 h2
    cases h2 <;> simp_all
  | wordN a a' =>
    intro v2 mm2 h2
    cases h2 <;> simp_all
  | look a _ a' ih =>
    intro v2 mm2 h2
    cases h2 with
    | look b c d => rw [a] at b; cases b; obtain ⟨rfl, rfl⟩ := ih c; exact ⟨rfl, rfl⟩
    | lookX b c => rw [a] at b; cases b; obtain ⟨rfl, _⟩ := ih c; exact absurd rfl a'
    | _ => simp_all
  | lookX a _ ih =>
    intro v2 mm2 h2
    cases h2 with
    | look b c d => rw [a] at b; cases b; obtain ⟨rfl, _⟩ := ih c; exact absurd rfl d
    | lookX b c => rw [a] at b; cases b; obtain ⟨_, rfl⟩ := ih c; exact ⟨rfl, rfl⟩
    | _ => simp_all
  | choice1 a _ a' ih =>
    intro v2 mm2 h2
    cases h2 with
    | choice1 b c d => rw [a] at b; cases b; obtain ⟨rfl, rfl⟩ := ih c; exact ⟨rfl, rfl⟩
    | choice2 b c d => rw [a] at b; cases b; obtain ⟨rfl, _⟩ := ih c; exact absurd rfl a'
    | _ => simp_all
  | choice2 a _ _ ih ih2 =>
    intro v2 mm2 h2
    cases h2 with
    | choice1 b c d => rw [a] at b; cases b; obtain ⟨rfl, _⟩ := ih c; exact absurd rfl d
    | choice2 b c d => rw [a] at b; cases b; obtain ⟨_, rfl⟩ := ih c; exact ih2 d
    | _ => simp_all
  | chain1 a _ a' ih =>
    intro v2 mm2 h2
    cases h2 with
    | chain1 b c d => rw [a] at b; cases b; obtain ⟨rfl, rfl⟩ := ih c; exact ⟨rfl, rfl⟩
    | chain2 b c d => rw [a] at b; cases b; obtain ⟨e, _⟩ := ih c; omega
    | _ => simp_all
  | chain2 a _ _ ih ih2 =>
    intro v2 mm2 h2
    cases h2 with
    | chain1 b c d => rw [a] at b; cases b; obtain ⟨e, _⟩ := ih c; omega
    | chain2 b c d => rw [a] at b; cases b; obtain ⟨e, rfl⟩ := ih c; obtain rfl := Int.ofNat.inj e; exact ih2 d
    | _ => simp_all
  | many a _ ih =>
    intro v2 mm2 h2
    cases h2 with
    | many b c => rw [a] at b; cases b; exact ih c
    | _ => simp_all
  | stop a =>
    intro v2 mm2 h2
    cases h2 with
    | stop b => exact ⟨rfl, rfl⟩
    | none b => exact absurd a b
    | manyX b => exact absurd a b
    | still b => exact absurd a b
    | more b => exact absurd a b
  | none a _ ih =>
    intro v2 mm2 h2
    cases h2 with
    | stop b => exact absurd b a
    | none b c => obtain ⟨_, rfl⟩ := ih c; exact ⟨rfl, rfl⟩
    | manyX b c => obtain ⟨e, _⟩ := ih c; omega
    | still b c => obtain ⟨e, _⟩ := ih c; omega
    | more b c => obtain ⟨e, _⟩ := ih c; omega
  | manyX a _ ih =>
    intro v2 mm2 h2
    cases h2 with
    | stop b => exact absurd b a
    | none b c => obtain ⟨e, _⟩ := ih c; omega
    | manyX b c => obtain ⟨_, rfl⟩ := ih c; exact ⟨rfl, rfl⟩
    | still b c => obtain ⟨e, _⟩ := ih c; omega
    | more b c => obtain ⟨e, _⟩ := ih c; omega
  | still a _ a' ih =>
    intro v2 mm2 h2
    cases h2 with
    | stop b => exact absurd b a
    | none b c => obtain ⟨e, _⟩ := ih c; omega
    | manyX b c => obtain ⟨e, _⟩ := ih c; omega
    | still b c => obtain ⟨_, rfl⟩ := ih c; exact ⟨rfl, rfl⟩
    | more b c d => obtain ⟨e, _⟩ := ih c; exact absurd ⟨a', (Int.ofNat.inj e).symm⟩ d
  | more a _ a' _ ih ih2 =>
    intro v2 mm2 h2
    cases h2 with
    | stop b => exact absurd b a
    | none b c => obtain ⟨e, _⟩ := ih c; omega
    | manyX b c => obtain ⟨e, _⟩ := ih c; omega
    | still b c d => obtain ⟨e, _⟩ := ih c; exact absurd ⟨d, Int.ofNat.inj e⟩ a'
    | more b c d e => obtain ⟨e', rfl⟩ := ih c; obtain rfl := Int.ofNat.inj e'; exact ih2 e
/-- the memory only grows -/
theorem R.grow {mm mm' : Memo} {q : Ways} {v : Int} (h : R P at_ len mm q v mm') : ∀ k p, (mm k p).isSome = true → (mm' k p).isSome = true := by
  induction h with
  | told _ => exact fun _ _ h => h
  | @ask mm k p v mm' a _ ih =>
    intro j q hj
    have : ((mm.set k p (-2)) j q).isSome = true := by
      unfold Memo.set
      split
      · rfl
      · exact hj
    have := ih j q this
    unfold Memo.set
    split
    · rfl
    · exact this
  | wordY => exact fun _ _ h => h
  | wordN => exact fun _ _ h => h
  | look _ _ _ ih => exact ih
  | lookX _ _ ih => exact ih
  | choice1 _ _ _ ih => exact ih
  | choice2 _ _ _ ih ih2 => exact fun k p h => ih2 k p (ih k p h)
  | chain1 _ _ _ ih => exact ih
  | chain2 _ _ _ ih ih2 => exact fun k p h => ih2 k p (ih k p h)
  | many _ _ ih => exact ih
  | stop => exact fun _ _ h => h
  | none _ _ ih => exact ih
  | manyX _ _ ih => exact ih
  | still _ _ _ ih => exact ih
  | more _ _ _ _ ih ih2 => exact fun k p h => ih2 k p (ih k p h)
end

/-- where an answer may lie -/
def Ran (len p : Nat) (v : Int) : Prop := v = -2 ∨ v = -1 ∨ ∃ q : Nat, v = q ∧ p ≤ q ∧ q ≤ len
def Good (len : Nat) (mm : Memo) : Prop := ∀ k p v, mm k p = some v → Ran len p v
def Ways.place : Ways → Nat
  | .rd _ p => p
  | .as _ p => p
  | .mn _ _ _ _ p => p
theorem Good.set {len k p : Nat} {mm : Memo} {v : Int} (g : Good len mm) (h : Ran len p v) : Good len (mm.set k p v) := by
  intro j q u e
  unfold Memo.set at e
  split at e
  · rename_i z; obtain ⟨rfl, rfl⟩ := z; cases e; exact h
  · exact g _ _ _ e
theorem Ran.lift {len p q : Nat} {v : Int} (h : Ran len q v) (e : p ≤ q) : Ran len p v := by
  rcases h with h | h | ⟨r, h, h1, h2⟩
  · exact .inl h
  · exact .inr (.inl h)
  · exact .inr (.inr ⟨r, h, by omega, h2⟩)
theorem Ran.nat {len p q : Nat} (h : Ran len p (q : Int)) : p ≤ q ∧ q ≤ len := by
  rcases h with h | h | ⟨r, h, h1, h2⟩
  · omega
  · omega
  · omega
theorem R.good {P : Nat → Ask} {at_ : Str → Nat → Bool} {len : Nat} (hat : ∀ x p, p ≤ len → at_ x p = true → p + x.length ≤ len) {mm mm' : Memo} {q : Ways} {v : Int} (h : R P at_ len mm q v mm') : Good len mm → q.place ≤ len → Good len mm' ∧ Ran len q.place v := by
  induction h with
  | told a => exact fun g _ => ⟨g, g _ _ _ a⟩
  | ask a _ ih =>
    intro g hp
    obtain ⟨g', r⟩ := ih (g.set (.inl rfl)) hp
    exact ⟨g'.set r, r⟩
  | @wordY mm k p x a b => exact fun g hp => ⟨g, .inr (.inr ⟨_, rfl, by simp [Ways.place], hat x p hp b⟩)⟩
  | wordN => exact fun g _ => ⟨g, .inr (.inl rfl)⟩
  | @look mm k p one neg e mm' _ _ _ ih =>
    intro g hp
    refine ⟨(ih g hp).1, ?_⟩
    split
    · exact .inr (.inr ⟨_, rfl, Nat.le_refl _, hp⟩)
    · exact .inr (.inl rfl)
  | lookX _ _ ih => exact fun g hp => ⟨(ih g hp).1, .inl rfl⟩
  | choice1 _ _ _ ih => exact fun g hp => ih g hp
  | choice2 _ _ _ ih ih2 => exact fun g hp => ih2 (ih g hp).1 hp
  | chain1 _ _ _ ih => exact fun g hp => ih g hp
  | chain2 _ _ _ ih ih2 =>
    intro g hp
    obtain ⟨g1, r1⟩ := ih g hp
    have := r1.nat
    simp only [Ways.place] at this hp
    obtain ⟨g2, r2⟩ := ih2 g1 this.2
    exact ⟨g2, r2.lift this.1⟩
  | many _ _ ih => exact fun g hp => ih g hp
  | stop =>
    intro g hp
    refine ⟨g, ?_⟩
    split
    · exact .inr (.inr ⟨_, rfl, Nat.le_refl _, hp⟩)
    · exact .inr (.inl rfl)
  | none _ _ ih =>
    intro g hp
    refine ⟨(ih g hp).1, ?_⟩
    split
    · exact .inr (.inr ⟨_, rfl, Nat.le_refl _, hp⟩)
    · exact .inr (.inl rfl)
  | manyX _ _ ih => exact fun g hp => ⟨(ih g hp).1, .inl rfl⟩
  | still _ _ _ ih => exact fun g hp => ih g hp
  | more _ _ _ _ ih ih2 =>
    intro g hp
    obtain ⟨g1, r1⟩ := ih g hp
    have := r1.nat
    simp only [Ways.place] at this hp
    obtain ⟨g2, r2⟩ := ih2 g1 this.2
    exact ⟨g2, r2.lift this.1⟩
/-- how much is not yet told -/
def left (n len : Nat) (mm : Memo) : Nat := ((List.range n).map fun k => ((List.range (len + 1)).countP fun p => (mm k p).isNone)).sum
theorem countP_le {α : Type} {f g : α → Bool} : ∀ {l : List α}, (∀ x ∈ l, g x = true → f x = true) → l.countP g ≤ l.countP f
  | [], _ => Nat.le_refl _
  | x :: l, h => by
    have ih := countP_le (l := l) (f := f) (g := g) fun y hy => h y (.tail _ hy)
    rw [List.countP_cons, List.countP_cons]
    have := h x (.head _)
    split <;> split <;> simp_all <;> omega
theorem countP_lt {α : Type} {f g : α → Bool} : ∀ {l : List α} {a : α}, (∀ x ∈ l, g x = true → f x = true) → a ∈ l → f a = true → g a = false → l.countP g < l.countP f
  | x :: l, a, h, hm, hf, hg => by
    have ih := countP_le (l := l) (f := f) (g := g) fun y hy => h y (.tail _ hy)
    rw [List.countP_cons, List.countP_cons]
    rcases List.mem_cons.mp hm with rfl | hm
    · rw [if_pos hf, hg]; simp; omega
    · have := countP_lt (fun y hy => h y (.tail _ hy)) hm hf hg
      have := h x (.head _)
      split <;> split <;> simp_all <;> omega
theorem sum_le {f g : Nat → Nat} : ∀ {l : List Nat}, (∀ x ∈ l, g x ≤ f x) → (l.map g).sum ≤ (l.map f).sum
  | [], _ => Nat.le_refl _
  | x :: l, h => by
    have ih := sum_le (l := l) (f := f) (g := g) fun y hy => h y (.tail _ hy)
    have := h x (.head _)
    simp only [List.map_cons, List.sum_cons]; omega
theorem sum_lt {f g : Nat → Nat} : ∀ {l : List Nat} {a : Nat}, (∀ x ∈ l, g x ≤ f x) → a ∈ l → g a < f a → (l.map g).sum < (l.map f).sum
  | x :: l, a, h, hm, ha => by
    simp only [List.map_cons, List.sum_cons]
    have h1 := h x (.head _)
    rcases List.mem_cons.mp hm with rfl | hm
    · have ih := sum_le (l := l) (f := f) (g := g) fun y hy => h y (.tail _ hy)
      omega
    · have := sum_lt (fun y hy => h y (.tail _ hy)) hm ha
      omega
theorem left_mono {n len : Nat} {mm mm' : Memo} (h : ∀ k p, (mm k p).isSome = true → (mm' k p).isSome = true) : left n len mm' ≤ left n len mm :=
  sum_le fun k _ => countP_le fun p _ e => by
    cases q : mm k p with
    | none => rfl
    | some v =>
      have := h k p (by rw [q]; rfl)
      rw [Option.isNone_iff_eq_none] at e
      rw [e] at this; cases this
theorem left_set {n len k p : Nat} {mm : Memo} {v : Int} (hk : k < n) (hp : p ≤ len) (h : mm k p = none) : left n len (mm.set k p v) < left n len mm := by
  have mono : ∀ j q, (mm.set k p v j q).isNone = true → (mm j q).isNone = true := fun j q e => by
    unfold Memo.set at e
    split at e
    · cases e
    · exact e
  refine sum_lt (a := k) (fun j _ => countP_le fun q _ e => mono j q e) (List.mem_range.mpr hk) (countP_lt (a := p) (fun q _ e => mono k q e) (List.mem_range.mpr (by omega)) (by rw [h]; rfl) ?_)
  unfold Memo.set
  rw [if_pos ⟨rfl, rfl⟩]; rfl
theorem left_le (n len : Nat) (mm : Memo) : left n len mm ≤ n * (len + 1) := by
  unfold left
  have : ∀ l : List Nat, (l.map fun k => ((List.range (len + 1)).countP fun p => (mm k p).isNone)).sum ≤ l.length * (len + 1) := by
    intro l
    induction l with
    | nil => simp
    | cons x l ih =>
      simp only [List.map_cons, List.sum_cons, List.length_cons, Nat.add_mul, Nat.one_mul]
      have := List.countP_le_length (p := fun p => (mm x p).isNone) (l := List.range (len + 1))
      rw [List.length_range] at this
      omega
  simpa using this (List.range n)
end VJ
end

section
open PySem PySem.W PyProof.Rows PySem.Calls PySem.Spec PyProof.V
namespace VJ
set_option maxRecDepth 100000
theorem fillR1 : K9 = K9 ∧ PySem.Challenge.rw_vj0024_01 = PySem.Challenge.rw_vj0024_01 := by
  k_fill
  exact ⟨rfl, rfl⟩
local macro_rules | `(tactic| k_mem) => `(tactic| (refine list_mem_of ?_; ktr_member))
local macro_rules | `(tactic| k_all) => `(tactic| assumption)
local macro_rules | `(tactic| k_room) => `(tactic| first | omega | (simp only [depth_under_make, depth_under_kw, depth_in1, depth_deeper]; omega))
/-- an entry of the plans as the law writes it -/
inductive Ent where
  | rule (num : Nat)
  | word (x : Str)
  | many (one : Nat) (least most : Int)
  | look (one : Nat) (neg : Bool)
  | choice (one two : Nat)
  | chain (one two : Nat)
abbrev tup5 (a b c d e : Value) (n : Nat) : Obj := { cls := .type "tuple", data := .seq #[a, b, c, d, e] n }
def Ent.Is (news : List (Addr × Obj)) (a : Addr) : Ent → Prop
  | .rule m => ∃ t1 t2 t3 t4 t5 n, (a, tup5 (.str (Str.ofString "rule") t1) (.int m t2) (.int 0 t3) (.int 0 t4) (.int 0 t5) n) ∈ news
  | .word x => ∃ t1 t2 t3 t4 t5 n, (a, tup5 (.str (Str.ofString "word") t1) (.int 0 t2) (.int 0 t3) (.str x t4) (.int 0 t5) n) ∈ news
  | .many o l m => ∃ t1 t2 t3 t4 t5 n, (a, tup5 (.str (Str.ofString "many") t1) (.int o t2) (.int 0 t3) (.int l t4) (.int m t5) n) ∈ news
  | .look o g => ∃ t1 t2 t3 t5 n, (a, tup5 (.str (Str.ofString "look") t1) (.int o t2) (.int 0 t3) (.bool g) (.int 0 t5) n) ∈ news
  | .choice o p => ∃ t1 t2 t3 t4 t5 n, (a, tup5 (.str (Str.ofString "choice") t1) (.int o t2) (.int p t3) (.int 0 t4) (.int 0 t5) n) ∈ news
  | .chain o p => ∃ t1 t2 t3 t4 t5 n, (a, tup5 (.str (Str.ofString "chain") t1) (.int o t2) (.int p t3) (.int 0 t4) (.int 0 t5) n) ∈ news
/-- the plans as they lie -/
structure PStat (news : List (Addr × Obj)) (pl : Addr) (n : Nat) (E : Nat → Ent) (T : Nat → Addr) : Prop where
  list : ∃ np, (pl, listOf ((List.range n).map fun k => Value.ref (T k)).toArray np) ∈ news
  tup : ∀ k, k < n → (E k).Is news (T k)
theorem Ent.Is.mono {news news' : List (Addr × Obj)} {a : Addr} {e : Ent} (h : e.Is news a) (s : ∀ q ∈ news, q.1 = a → q ∈ news') : e.Is news' a := by
  cases e <;> (unfold Ent.Is at h ⊢; (first | (obtain ⟨t1, t2, t3, t4, t5, n, h⟩ := h; exact ⟨t1, t2, t3, t4, t5, n, s _ h rfl⟩) | (obtain ⟨t1, t2, t3, t5, n, h⟩ := h; exact ⟨t1, t2, t3, t5, n, s _ h rfl⟩)))
theorem PStat.mono {news news' : List (Addr × Obj)} {pl : Addr} {n : Nat} {E : Nat → Ent} {T : Nat → Addr} (h : PStat news pl n E T) (s : ∀ q ∈ news, (q.1 = pl ∨ ∃ k, k < n ∧ q.1 = T k) → q ∈ news') : PStat news' pl n E T :=
  ⟨let ⟨np, a⟩ := h.list; ⟨np, s _ a (.inl rfl)⟩, fun k hk => (h.tup k hk).mono fun q hq e => s q hq (.inr ⟨k, hk, e⟩)⟩
theorem TupTab.mono {prog : Program} {w : World} {K : Type} [DecidableEq K] {knd : KeyKind prog w K} {enc : K → PyData} {news news' : List (Addr × Obj)} {d : Addr} {D : List (PyData × PyData)} (T : TupTab knd enc news d D) (s : ∀ q ∈ news, q ∈ news') : TupTab knd enc news' d D :=
  let ⟨lo, o, es, ep, xs, hm, hc, hd, he, hn, hk, hf⟩ := T
  ⟨lo, o, es, ep, xs, s _ hm, hc, hd, he, hn, fun x hx => let ⟨okx, hmk, t⟩ := hk x hx; ⟨okx, s _ hmk, t⟩, hf⟩
/-- what the dict `seen` says -/
def Says (D : List (PyData × PyData)) (mm : Memo) : Prop := ∀ k p : Nat, lookup (encTuple PyData.int [(k : Int), (p : Int)]) D = (mm k p).map PyData.int
theorem keyTup : KeyEnc (encTuple PyData.int) := keyEnc_tuple keyEnc_int
theorem Says.set {D : List (PyData × PyData)} {mm : Memo} (h : Says D mm) (k p : Nat) (v : Int) : Says (putD (encTuple PyData.int [(k : Int), (p : Int)]) (.int v) D) (mm.set k p v) := by
  intro j q
  rw [lookup_putK keyTup]
  unfold Memo.set
  by_cases e : j = k ∧ q = p
  · obtain ⟨rfl, rfl⟩ := e
    simp
  · rw [if_neg e, if_neg (fun z => e (by simp at z; omega))]
    exact h j q
structure SInv (prog : Program) (w : World) (news : List (Addr × Obj)) (pl sd : Addr) (n len : Nat) (E : Nat → Ent) (T : Nat → Addr) (mm : Memo) : Prop where
  stat : PStat news pl n E T
  tab : ∃ D, TupTab (intKind prog w) PyData.int news sd D ∧ Says D mm ∧ D.length + left n len mm ≤ n * (len + 1)
  ne : @Ne Nat pl sd ∧ ∀ k, k < n → @Ne Nat (T k) sd
theorem SInv.sup {prog : Program} {w : World} {news news' : List (Addr × Obj)} {pl sd : Addr} {n len : Nat} {E : Nat → Ent} {T : Nat → Addr} {mm : Memo} (S : SInv prog w news pl sd n len E T mm) (h : ∀ q ∈ news, q ∈ news') : SInv prog w news' pl sd n len E T mm :=
  ⟨S.stat.mono fun q hq _ => h q hq, let ⟨D, a, b⟩ := S.tab; ⟨D, TupTab.mono a h, b⟩, S.ne⟩
theorem ik2 {prog : Program} {w : World} {k p : Int} {t u : Tok} : PySem.ItemsAre (intKind prog w) [k, p] [.int k t, .int p u] := .cons (intKind_is _ _ _ _) (.cons (intKind_is _ _ _ _) .nil)
theorem SInv.put {prog : Program} {w : World} {news news' : List (Addr × Obj)} {pl sd : Addr} {n len : Nat} {E : Nat → Ent} {T : Nat → Addr} {mm : Memo} {D : List (PyData × PyData)} {k p : Nat} {v : Int} (S : SInv prog w news pl sd n len E T mm) (sy : Says D mm) (hD : D.length + left n len mm ≤ n * (len + 1)) (hk : k < n) (hp : p ≤ len)
    (TB : TupTab (intKind prog w) PyData.int news' sd (putD (encTuple PyData.int [(k : Int), (p : Int)]) (.int v) D)) (keep : ∀ q ∈ news, q.1 ≠ sd → q ∈ news') : SInv prog w news' pl sd n len E T (mm.set k p v) := by
  refine ⟨S.stat.mono fun q hq e => keep q hq ?_, ⟨_, TB, sy.set k p v, ?_⟩, S.ne⟩
  · rcases e with e | ⟨j, hj, e⟩
    · rw [e]; exact S.ne.1
    · rw [e]; exact S.ne.2 j hj
  · rw [length_putD, sy k p]
    cases hm : mm k p with
    | some x =>
      have : left n len (mm.set k p v) ≤ left n len mm := left_mono fun j q hj => by
        unfold Memo.set
        split
        · rfl
        · exact hj
      simp only [Option.map_some, Option.isSome_some, if_true]
      omega
    | none =>
      have := left_set (v := v) hk hp hm
      simp only [Option.map_none, Option.isSome_none, Bool.false_eq_true, if_false]
      omega
end VJ
end

section
open PySem PySem.W PyProof.Rows PySem.Calls PySem.W.X
namespace VJ
set_option maxRecDepth 100000
theorem fillC : K9 = K9 ∧ PySem.Challenge.rw_vj0024_01 = PySem.Challenge.rw_vj0024_01 := by
  k_fill
  exact ⟨rfl, rfl⟩
abbrev A9 : Around := { handled := none, depth := 900, frames := none, guards := none, units := 9000 }
theorem wide_around {M : Model} {A : Around} {α : Type} {t : Sem α} {Q : α → Shared → Prop} {E : Value → Shared → Prop} {s : Shared} (h : wpAny M A9 t Q E s) (hh : A.handled = none) (hd : A.depth ≤ 900) (hu : A.units ≤ 9000) : wpAny M A t Q E s :=
  fun Γ p hΓ => h Γ p ⟨hΓ.1.trans hh, Nat.le_trans hΓ.2.1 hd, (fun _ e => nomatch e), (fun _ e => nomatch e), Nat.le_trans hΓ.2.2.2.2 hu⟩
/-- what a call made that wrote nothing else -/
structure Grew (h₀ h : Heap) (news : List (Addr × Obj)) : Prop where
  keep : ∀ b o, h₀.get? b = some o → h.get? b = some o
  nw : ∀ p ∈ news, h.get? p.1 = some p.2 ∧ h₀.get? p.1 = none
theorem mem_keep {h₀ h : Heap} {news : List (Addr × Obj)} (D : Mem h₀ h [] news) : ∀ b o, h₀.get? b = some o → h.get? b = some o :=
  fun b o e => D.keep b o e (by rw [show away [] b = true from rfl, Bool.or_true])
theorem grew1 {h₀ h : Heap} {news : List (Addr × Obj)} {p : Addr × Obj} (D : Mem h₀ h [] news) (a : p ∈ news) : Grew h₀ h [p] :=
  ⟨mem_keep D, fun q hq => by rcases List.mem_cons.mp hq with rfl | hq; exact D.nw _ a; cases hq⟩
theorem grew_cons {h₀ h : Heap} {news l : List (Addr × Obj)} {p : Addr × Obj} (D : Mem h₀ h [] news) (a : p ∈ news) (G : Grew h₀ h l) : Grew h₀ h (p :: l) :=
  ⟨G.keep, fun q hq => by rcases List.mem_cons.mp hq with rfl | hq; exact D.nw _ a; exact G.nw q hq⟩
def at3 (new : List (Addr × Obj)) (i j k : Nat) : Option ((Addr × Obj) × (Addr × Obj) × (Addr × Obj)) := match new[i]?, new[j]?, new[k]? with
  | some p, some q, some r => some (p, q, r)
  | _, _, _ => none
/-- three of the objects made, at their places, and what they are -/
def Made3 (new : List (Addr × Obj)) (i j k : Nat) (a : Addr) (f : Addr → Addr → Obj) (g h : Obj) : Prop :=
  at3 new i j k = (at3 new i j k).map fun z => ((a, f z.2.1.1 z.2.2.1), (z.2.1.1, g), (z.2.2.1, h))
theorem grew_at3 {h₀ h : Heap} {new : List (Addr × Obj)} {i j k : Nat} {a : Addr} {f : Addr → Addr → Obj} {g o : Obj} (D : Mem h₀ h [] new) (m : Made3 new i j k a f g o) (hs : (at3 new i j k).isSome = true) : ∃ d c, Grew h₀ h [(a, f d c), (d, g), (c, o)] := by
  unfold Made3 at m
  obtain ⟨⟨p, q, r⟩, e⟩ := Option.isSome_iff_exists.mp hs
  rw [e, Option.map_some] at m
  simp only [Option.some.injEq, Prod.mk.injEq] at m
  obtain ⟨hp, hq, hr⟩ := m
  unfold at3 at e
  split at e
  · rename_i p' q' r' e1 e2 e3
    cases e
    refine ⟨q.1, r.1, grew_cons D ?_ (grew_cons D ?_ (grew1 D ?_))⟩
    · rw [← hp]; exact List.mem_of_getElem? e1
    · rw [← hq]; exact List.mem_of_getElem? e2
    · rw [← hr]; exact List.mem_of_getElem? e3
  · cases e
section
variable {h₀ h h' : Heap} {L : Addr} {m : Str → Option Value} {news new : List (Addr × Obj)}
theorem grew_fr (F : Fr h₀ L h m) (G : Grew h h' new) : Fr h₀ L h' m := by
  obtain ⟨oL, a1, a2, hL, a3⟩ := F.ns
  exact ⟨⟨oL, a1, a2, G.keep _ _ hL, a3⟩, fun b o e => G.keep _ _ (F.keep b o e), F.above⟩
theorem grew_news (F : Fr h₀ L h m) (N : News h₀ L h news) (G : Grew h h' new) : News h₀ L h' (new ++ news) := fun q hq => by
  rcases List.mem_append.mp hq with hq | hq
  · obtain ⟨oL, _, _, hL, _⟩ := F.ns
    refine ⟨(G.nw q hq).1, fun e => ?_, ?_⟩
    · have := (G.nw q hq).2; rw [e, hL] at this; cases this
    · cases z : h₀.get? q.1 with
      | none => rfl
      | some o => have := (G.nw q hq).2; rw [F.keep _ _ z] at this; cases this
  · exact ⟨G.keep _ _ (N q hq).1, (N q hq).2⟩
theorem grew_ne (N : News h₀ L h news) (G : Grew h h' new) {p q : Addr × Obj} (hp : p ∈ new) (hq : q ∈ news) : q.1 ≠ p.1 := fun e => by
  have := (G.nw p hp).2; rw [← e, (N q hq).1] at this; cases this
end
/-- a node, its children in a list -/
abbrev nodeObj (d c : Addr) (v : Addr) (x : Str) (t : Tok) (i1 : Int) (l1 : Tok) (i2 : Int) (l2 : Tok) : Obj := ⟨.ref 243, some d, .plain, #[some (.ref c), some (.int i2 l2), some (.ref v), some (.str x t), some (.int i1 l1)]⟩
section
local macro_rules | `(tactic| x_close) => `(tactic| first
  | (refine' ⟨_, _, _, _, rfl, rfl, ?D, ?m, ?s⟩; (case D => assumption); (case m => (unfold Made3; kernel_rfl)); (case s => kernel_rfl))
  | (exfalso; omega))
set_option maxHeartbeats 400000 in
theorem x_node1 {prog : Program} {w : World} {s : Shared} {x : Str} {t l1 l2 : Tok} {v1 : Addr} {i1 i2 : Int} (X : (K9 w.params).In s.heap) :
    wpAny (model prog w) A9 (call (.ref 243) [.ref v1, .str x t, .int i1 l1, .int i2 l2] [])
      (fun v s' => ∃ a h tk new, v = .ref a ∧ s' = ⟨h, s.gens, s.drawn, tk, s.os⟩ ∧ Mem s.heap h [] new ∧ Made3 new 2 3 0 a (fun d c => nodeObj d c v1 x t i1 l1 i2 l2) (dictOf [] 0) (listOf #[] 0) ∧ (at3 new 2 3 0).isSome = true) (fun _ _ => False) s := by
  x_run
end
end VJ
end

section
open PySem PySem.W PyProof.Rows PySem.Calls PySem.W.X
namespace VJ
set_option maxRecDepth 100000
theorem fillGA : K9 = K9 ∧ PySem.Challenge.rw_vj0024_01 = PySem.Challenge.rw_vj0024_01 := by
  k_fill
  exact ⟨rfl, rfl⟩
/-- the five classes of pieces -/
def Kls (C : Addr) : Prop := C = (367 : Nat) ∨ C = (425 : Nat) ∨ C = (451 : Nat) ∨ C = (489 : Nat) ∨ C = (528 : Nat)
section
local macro_rules | `(tactic| x_close) => `(tactic| (refine' ⟨rfl, _, _, _, rfl, ?D⟩; (case D => first | assumption | exact Mem.start _)))
set_option maxHeartbeats 1000000 in
theorem ga_miss {prog : Program} {w : World} {s : Shared} {C a d : Addr} {n : Nat} {v : Value} {sl : Array (Option Value)} {t : Tok} (hC : Kls C) (X : (K9 w.params).In s.heap) (h1 : s.heap.get? a = some ⟨.ref C, some d, .plain, sl⟩) (h2 : s.heap.get? d = some { cls := .type "dict", data := .dict #[] n }) :
    wpAny (model prog w) A9 (call (.builtin "getattr") [.ref a, .str (Str.ofString "oids") t, v] [])
      (fun r s' => r = v ∧ ∃ h tk new, s' = ⟨h, s.gens, s.drawn, tk, s.os⟩ ∧ Mem s.heap h [] new) (fun _ _ => False) s := by
  rcases hC with rfl | rfl | rfl | rfl | rfl
  · x_run
  · x_run
  · x_run
  · x_run
  · x_run
set_option maxHeartbeats 1000000 in
theorem ga_own {prog : Program} {w : World} {s : Shared} {C a d T : Addr} {n : Nat} {hsh : Int} {v : Value} {sl : Array (Option Value)} {t tk : Tok} (hC : Kls C) (X : (K9 w.params).In s.heap) (h1 : s.heap.get? a = some ⟨.ref C, some d, .plain, sl⟩) (h2 : s.heap.get? d = some { cls := .type "dict", data := .dict #[⟨hsh, .str (Str.ofString "oids") tk, .ref T⟩] n }) :
    wpAny (model prog w) A9 (call (.builtin "getattr") [.ref a, .str (Str.ofString "oids") t, v] [])
      (fun r s' => r = .ref T ∧ ∃ h tk new, s' = ⟨h, s.gens, s.drawn, tk, s.os⟩ ∧ Mem s.heap h [] new) (fun _ _ => False) s := by
  rcases hC with rfl | rfl | rfl | rfl | rfl
  · x_run
  · x_run
  · x_run
  · x_run
  · x_run
set_option maxHeartbeats 1000000 in
theorem ga_none {prog : Program} {w : World} {s : Shared} {v : Value} {t : Tok} (X : (K9 w.params).In s.heap) :
    wpAny (model prog w) A9 (call (.builtin "getattr") [.none, .str (Str.ofString "name") t, v] [])
      (fun r s' => r = v ∧ ∃ h tk new, s' = ⟨h, s.gens, s.drawn, tk, s.os⟩ ∧ Mem s.heap h [] new) (fun _ _ => False) s := by
  x_run
end
section
local macro_rules | `(tactic| x_close) => `(tactic| (refine' ⟨⟨_, rfl⟩, _, _, _, rfl, ?D⟩; (case D => first | assumption | exact Mem.start _)))
set_option maxHeartbeats 1000000 in
theorem ga_name {prog : Program} {w : World} {s : Shared} {a d : Addr} {C : Nat} {o1 o2 o3 : Value} {nm : Str} {t t1 tn : Tok} {v : Value} {es : Array DictEntry} {n : Nat} (X : (K9 w.params).In s.heap)
    (h1 : (s.heap.get? a = some ⟨.ref 367, some d, .plain, #[some o1, some o2, some (.str nm tn)]⟩) ∨ (s.heap.get? a = some ⟨.ref 425, some d, .plain, #[some o1, some o2, some (.str nm tn)]⟩) ∨ (s.heap.get? a = some ⟨.ref 451, some d, .plain, #[some o1, some o2, some (.str nm tn)]⟩)
       ∨ (∃ o3, s.heap.get? a = some ⟨.ref 489, some d, .plain, #[some o1, some o2, some o3, some (.str nm tn)]⟩) ∨ (∃ o3 o4, s.heap.get? a = some ⟨.ref 528, some d, .plain, #[some o1, some o2, some o3, some o4, some (.str nm tn)]⟩)) :
    wpAny (model prog w) A9 (call (.builtin "getattr") [.ref a, .str (Str.ofString "name") t, v] [])
      (fun r s' => (∃ t', r = .str nm t') ∧ ∃ h tk new, s' = ⟨h, s.gens, s.drawn, tk, s.os⟩ ∧ Mem s.heap h [] new) (fun _ _ => False) s := by
  rcases h1 with h1 | h1 | h1 | ⟨o3, h1⟩ | ⟨o3, o4, h1⟩
  · x_run
  · x_run
  · x_run
  · x_run
  · x_run
end
section
variable {prog : Program} {w : World} {A : Around} {E : Value → Shared → Prop} {Q : Value → Shared → Prop} {s : Shared} {h₀ : Heap} {L : Addr} {m : Str → Option Value} {news : List (Addr × Obj)}
/-- what a run told of a call that wrote nothing else, for the walk -/
theorem grew_use {P : Value → Prop} {t : Sem Value} (z : wpAny (model prog w) A9 t (fun r s' => P r ∧ ∃ h tk new, s' = ⟨h, s.gens, s.drawn, tk, s.os⟩ ∧ Mem s.heap h [] new) (fun _ _ => False) s)
    (F : Fr h₀ L s.heap m) (N : News h₀ L s.heap news) (hh : A.handled = none) (hd : A.depth ≤ 900) (hu : A.units ≤ 9000)
    (h : ∀ r h' tk, P r → Fr h₀ L h' m → News h₀ L h' news → Q r { s with heap := h', toks := tk }) : wpAny (model prog w) A t Q E s := by
  refine wpAny_mono (wide_around z hh hd hu) (fun r s' q => ?_) fun _ _ e => e.elim
  obtain ⟨hp, h', tk, new, rfl, D⟩ := q
  have G : Grew s.heap h' [] := ⟨mem_keep D, fun _ h => nomatch h⟩
  exact h r h' tk hp (grew_fr F G) (by have := grew_news F N G; simpa using this)
theorem ga_miss_K {C a d : Addr} {n : Nat} {v : Value} {sl : Array (Option Value)} {t : Tok} (hC : Kls C) (F : Fr h₀ L s.heap m) (X : (K9 w.params).In h₀) (N : News h₀ L s.heap news) (h1 : (a, (⟨.ref C, some d, .plain, sl⟩ : Obj)) ∈ news) (h2 : (d, dictOf [] n) ∈ news)
    (hh : A.handled = none) (hd : A.depth ≤ 900) (hu : A.units ≤ 9000) (h : ∀ h' tk, Fr h₀ L h' m → News h₀ L h' news → Q v { s with heap := h', toks := tk }) :
    wpAny (model prog w) A (call (.builtin "getattr") [.ref a, .str (Str.ofString "oids") t, v]) Q E s :=
  grew_use (ga_miss (v := v) hC (X.keeps F.keep) (N _ h1).1 (N _ h2).1) F N hh hd hu fun r h' tk e F' N' => e ▸ h h' tk F' N'
theorem ga_own_K {C a d T : Addr} {n : Nat} {hsh : Int} {v : Value} {sl : Array (Option Value)} {t tk : Tok} (hC : Kls C) (F : Fr h₀ L s.heap m) (X : (K9 w.params).In h₀) (N : News h₀ L s.heap news) (h1 : (a, (⟨.ref C, some d, .plain, sl⟩ : Obj)) ∈ news) (h2 : (d, dictOf [⟨hsh, .str (Str.ofString "oids") tk, .ref T⟩] n) ∈ news)
    (hh : A.handled = none) (hd : A.depth ≤ 900) (hu : A.units ≤ 9000) (h : ∀ h' tk, Fr h₀ L h' m → News h₀ L h' news → Q (.ref T) { s with heap := h', toks := tk }) :
    wpAny (model prog w) A (call (.builtin "getattr") [.ref a, .str (Str.ofString "oids") t, v]) Q E s :=
  grew_use (ga_own (v := v) hC (X.keeps F.keep) (N _ h1).1 (N _ h2).1) F N hh hd hu fun r h' tk e F' N' => e ▸ h h' tk F' N'
theorem ga_none_K {v : Value} {t : Tok} (F : Fr h₀ L s.heap m) (X : (K9 w.params).In h₀) (N : News h₀ L s.heap news)
    (hh : A.handled = none) (hd : A.depth ≤ 900) (hu : A.units ≤ 9000) (h : ∀ h' tk, Fr h₀ L h' m → News h₀ L h' news → Q v { s with heap := h', toks := tk }) :
    wpAny (model prog w) A (call (.builtin "getattr") [.none, .str (Str.ofString "name") t, v]) Q E s :=
  grew_use (ga_none (v := v) (X.keeps F.keep)) F N hh hd hu fun r h' tk e F' N' => e ▸ h h' tk F' N'
end
end VJ
end

section
open PySem PySem.W PyProof.Rows PySem.Calls PySem.W.X
namespace VJ
set_option maxRecDepth 100000
theorem fillEX : K9 = K9 ∧ PySem.Challenge.rw_vj0024_01 = PySem.Challenge.rw_vj0024_01 := by
  k_fill
  exact ⟨rfl, rfl⟩
/-- the own dict of a ParseError -/
abbrev errEs (h1 h2 h3 : Int) (a1 a3 a5 : Tok) (v1 v2 v3 : Value) : List DictEntry := [⟨h1, .str (Str.ofString "text") a1, v1⟩, ⟨h2, .str (Str.ofString "pos") a3, v2⟩, ⟨h3, .str (Str.ofString "expr") a5, v3⟩]
section
local macro_rules | `(tactic| x_close) => `(tactic| (refine' ⟨rfl, _, _, _, rfl, ?D⟩; (case D => first | assumption | exact Mem.start _)))
variable {prog : Program} {w : World} {s : Shared} {a d : Addr} {n : Nat} {h1 h2 h3 : Int} {a1 a3 a5 : Tok} {v1 v2 v3 : Value} {dat : Data} {sl : Array (Option Value)} {t : Tok}
variable {x1 x2 x3 x4 x5 x6 : Value} {i2 : Int} {t2 : Tok}
set_option maxHeartbeats 1000000 in
theorem x_pos (X : (K9 w.params).In s.heap) (e1 : s.heap.get? a = some ⟨.ref 87, some d, .fields #[x1, x2, x3, x4, x5, x6], #[]⟩) (e2 : s.heap.get? d = some { cls := .type "dict", data := .dict #[⟨h1, .str (Str.ofString "text") a1, v1⟩, ⟨h2, .str (Str.ofString "pos") a3, .int i2 t2⟩, ⟨h3, .str (Str.ofString "expr") a5, v3⟩] n }) :
    wpAny (model prog w) A9 (call (.builtin "BaseException.__getattribute__") [.ref a, .str (Str.ofString "pos") t] [])
      (fun r s' => r = .int i2 t2 ∧ ∃ h tk new, s' = ⟨h, s.gens, s.drawn, tk, s.os⟩ ∧ Mem s.heap h [] new) (fun _ _ => False) s := by
  x_run
set_option maxHeartbeats 1000000 in
theorem x_expr0 (X : (K9 w.params).In s.heap) (e1 : s.heap.get? a = some ⟨.ref 87, some d, .fields #[x1, x2, x3, x4, x5, x6], #[]⟩) (e2 : s.heap.get? d = some { cls := .type "dict", data := .dict #[⟨h1, .str (Str.ofString "text") a1, v1⟩, ⟨h2, .str (Str.ofString "pos") a3, v2⟩, ⟨h3, .str (Str.ofString "expr") a5, .none⟩] n }) :
    wpAny (model prog w) A9 (call (.builtin "BaseException.__getattribute__") [.ref a, .str (Str.ofString "expr") t] [])
      (fun r s' => r = .none ∧ ∃ h tk new, s' = ⟨h, s.gens, s.drawn, tk, s.os⟩ ∧ Mem s.heap h [] new) (fun _ _ => False) s := by
  x_run
set_option maxHeartbeats 1000000 in
theorem x_expr1 {j : Addr} (X : (K9 w.params).In s.heap) (e1 : s.heap.get? a = some ⟨.ref 87, some d, .fields #[x1, x2, x3, x4, x5, x6], #[]⟩) (e2 : s.heap.get? d = some { cls := .type "dict", data := .dict #[⟨h1, .str (Str.ofString "text") a1, v1⟩, ⟨h2, .str (Str.ofString "pos") a3, v2⟩, ⟨h3, .str (Str.ofString "expr") a5, .ref j⟩] n }) :
    wpAny (model prog w) A9 (call (.builtin "BaseException.__getattribute__") [.ref a, .str (Str.ofString "expr") t] [])
      (fun r s' => r = .ref j ∧ ∃ h tk new, s' = ⟨h, s.gens, s.drawn, tk, s.os⟩ ∧ Mem s.heap h [] new) (fun _ _ => False) s := by
  x_run
end
section
variable {prog : Program} {w : World} {A : Around} {E : Value → Shared → Prop} {Q : Value → Shared → Prop} {s : Shared} {h₀ : Heap} {L : Addr} {m : Str → Option Value} {news : List (Addr × Obj)} {a d : Addr} {od ox : Obj} {name : Str} {v : Value} {expr : Bool}
/-- an attribute of a ParseError -/
theorem exc_get (hv : handedIn v = true) (I : InstAt s.heap a ox 87 (some od)) (X : (K9 w.params).In s.heap)
    (z : ∀ t u, wpAny (model prog w) A (call (.builtin "BaseException.__getattribute__") [.ref a, .str name t] []) (fun r s' => r = v ∧ Q r s') (fun _ _ => False) { s with toks := u }) :
    wpAny (model prog w) A (getAttr (.ref a) name expr) Q E s := by
  obtain ⟨hh, g, dd, tk, os⟩ := s
  have L0 := I.type (M := model prog w)
  have L1 := looks_findIn (M := model prog w) X (t := .ref 87) (name := "__getattribute__") (r := some (.builtin "BaseException.__getattribute__")) (by k_is)
  have L2 := looks_findIn (M := model prog w) X (t := .ref 87) (name := "__getattr__") (r := none) (by k_is)
  unfold getAttr
  refine wpAny_bind (wpAny_mkText ?_)
  unfold getAttrBy
  refine wpAny_holding (wpAny_bind (L0.at (wpAny_bind (L1.at ?_))))
  show wpAny _ _ (getAttrByItsOwn _ _ _ _ _ _) _ _ _
  unfold getAttrByItsOwn
  refine wpAny_bind (L2.at (wpAny_bind (wpAny_attempt (wpAny_holding ?_))))
  have e : callGetattribute (.ref a) (.str name tk) (.builtin "BaseException.__getattribute__") expr = boundAndCalled (.builtin "BaseException.__getattribute__") (.ref a) (.str name tk) := by
    unfold callGetattribute
    cases expr <;> rfl
  rw [e]
  unfold boundAndCalled
  rw [PySem.F.attr_Exception.ga.bind (.ref a)]
  refine wpAny_bind (wpAny_pure ?_)
  refine wpAny_mono (z tk (tk + 1)) (fun r s' q => ?_) fun _ _ e => e.elim
  obtain ⟨rfl, q⟩ := q
  show wpAny _ _ (handedOut r) _ _ _
  rw [handedOut_of hv]; exact wpAny_pure q
end
theorem err_cls {w : World} : ∃ cd, clsIn (K9 w.params) 87 = some cd ∧ cd.mro = [.ref 87, .ref 31, .ref 45, .type "Exception", .type "BaseException", .type "object"] ∧ cd.hasDict = true := by
  have z : (clsIn (K9 w.params) 87).map (fun cd => (cd.mro, cd.hasDict)) = some ([.ref 87, .ref 31, .ref 45, .type "Exception", .type "BaseException", .type "object"], true) := by kernel_rfl
  obtain ⟨cd, hc, e⟩ := Option.map_eq_some_iff.mp z
  exact ⟨cd, hc, congrArg Prod.fst e, congrArg Prod.snd e⟩
section
variable {prog : Program} {w : World} {A : Around} {E : Value → Shared → Prop} {s : Shared} {h₀ : Heap} {L x dx : Addr} {m : Str → Option Value} {news news' : List (Addr × Obj)} {od ox : Obj} {name : Str} {v : Value} {es es' : List DictEntry} {n n' : Nat} {R : Result → Shared → Prop} {tk : Tok}
theorem exc_open (X : (K9 w.params).In s.heap) (I : InstAt s.heap x ox 87 (some od)) (ht : findIn (K9 w.params) (.ref 87) name = some none)
    (h : wpAny (model prog w) A.in1 (Builtin.ObjectAttr.storeInOwnDict (.ref x) (.ref 87) (.str name tk) name v false)
      (fun fin s' => match fin with | .done f => R (.ok f) s' | .again c' => c'.quiet = true ∧ codeAny (model prog w) A c' R s') (fun e s' => R (.error e) s') s) :
    codeAny (model prog w) A (.call (.builtin "object.__setattr__") ⟨[.ref x, .str name tk, v], []⟩) R s := by
  have SF := PySem.F.store_object
  obtain ⟨cd, hc, hm', -⟩ := err_cls (w := w)
  have sub : Looks (model prog w) s.heap (isInstance (.ref x) (.type "object")) true := I.type.andThen (looks_mroIn X (by unfold mroIn; rw [hc, Option.bind_some, hm']; rfl))
  refine codeAny_call_builtin SF.slot.plain SF.entry (@check_slot (model prog w) _ _ s "object.__setattr__" "object" "__setattr__" (.ref x) [.str name tk, v] [] _ SF.kind SF.split sub (SF.args (.ref x) (.str name tk) v) ?_)
  have hm : Looks (model prog w) s.heap (mroOf (.ref 87)) cd.mro := (looks_clsIn X hc).andThen .now
  rw [osa_eq, refuse_eq]
  refine wpAny_bind (wpAny_bind (I.type.here (wpAny_bind (hm.here ?_))))
  rw [hm', refuseLoop_ref, refuseLoop_ref, refuseLoop_ref, PySem.F.store_Exception.passes]
  refine wpAny_pure (wpAny_bind (I.type.here (wpAny_bind ((looks_findIn X ht).here (wpAny_bind (wpAny_pure ?_))))))
  exact h
/-- an attribute of a ParseError, set in its own dict -/
theorem exc_set {Q : Unit → Shared → Prop} (F : Fr h₀ L s.heap m) (X₀ : (K9 w.params).In h₀) (N : News h₀ L s.heap news) (I : InstAt s.heap x ox 87 (some (dictOf es n))) (hdx : ox.dict = some dx)
    (ht : findIn (K9 w.params) (.ref 87) name = some none) (hl : (getL name es).isSome = true)
    (e : (putL name (PyData.keyHash w.params name) (.str name (s.toks + 1)) v es, putN name es n) = (es', n')) (U : Upd dx (dictOf es n) (dictOf es' n') news news') (hz : es'.length ≤ 1000)
    (h : ∀ h', Fr h₀ L h' m → News h₀ L h' news' → Q () { s with heap := h', toks := s.toks + 2 }) :
    wpAny (model prog w) A (setAttr (.ref x) name v) Q E s := by
  obtain ⟨pre, post, rfl, rfl, a, b⟩ := U.split
  obtain ⟨rfl, rfl⟩ := Prod.mk.inj e
  have X := X₀.keeps F.keep
  refine set_plain X I (by k_is) (exc_open (s := { s with toks := s.toks + 1 }) X I ht ?_)
  obtain ⟨cd, hc, -, hd'⟩ := err_cls (w := w)
  obtain ⟨U1, U2⟩ := news_upd (f := Obj.putName name (PyData.keyHash w.params name) (.str name (s.toks + 1)) v) F N a b (by rw [putName_dict]) rfl
  have D := (N (dx, dictOf es n) (by simp)).1
  have D' := (U2 (dx, dictOf (putL name (PyData.keyHash w.params name) (.str name (s.toks + 1)) v es) (putN name es n)) (by simp)).1
  obtain ⟨hx, hcl, hn, -⟩ := I
  obtain ⟨oc, odi, oda, osl⟩ := ox
  dsimp only at hcl hdx
  subst hcl hdx
  refine wpAny_bind (wpAny_pure (wpAny_bind (wpAny_bind (wpAny_loadPart hx (wpAny_bind ((looks_clsIn X hc).at ?_))))))
  rw [hd']
  refine wpAny_pure (a := some dx) (wpAny_bind (wpAny_pure (wpAny_bind ?_)))
  unfold nsSet
  refine wpAny_bind (wpAny_bind (wpAny_askSetting (wpAny_pure (wpAny_bind (wpAny_mkText (wpAny_bind (wpAny_loadPart D ?_)))))))
  dsimp only
  have c : (!es.toArray.any (·.key.isStr name) && es.toArray.any (·.refKey)) = false := by
    rw [← Array.any_toList, ← Array.any_toList]
    unfold getL at hl
    split at hl
    · rename_i en he
      rw [List.any_eq_true.mpr ⟨en, List.mem_of_find?_eq_some he, List.find?_some he⟩]; rfl
    · split at hl
      · cases hl
      · rename_i z; rw [Bool.not_eq_true] at z; rw [show es.toArray.toList = es from rfl, z, Bool.and_false]
  rw [aRefKeyMayBeTheName_at, c]
  refine wpAny_updatePart D ?_
  refine wpAny_bind (wpAny_lookBehind D' (pastItsLine_dict (by rw [List.size_toArray, sizeLine_eq]; omega)) ?_)
  exact wpAny_pure (h _ U1 U2)
end
theorem InstAt.of_news' {h₀ h : Heap} {L x C dx : Addr} {news : List (Addr × Obj)} {od ox : Obj} (N : News h₀ L h news) (h1 : (x, ox) ∈ news) (hc : ox.cls = .ref C) (hn : notCls ox = true) (hd : ox.dict = some dx) (h2 : (dx, od) ∈ news) :
    InstAt h x ox C (some od) := ⟨(N _ h1).1, hc, hn, by rw [hd]; exact (N _ h2).1⟩
abbrev errObj (d : Addr) (x1 x2 x3 x4 x5 x6 : Value) : Obj := ⟨.ref 87, some d, .fields #[x1, x2, x3, x4, x5, x6], #[]⟩
section
variable {prog : Program} {w : World} {A : Around} {E : Value → Shared → Prop} {Q : Value → Shared → Prop} {s : Shared} {h₀ : Heap} {L : Addr} {m : Str → Option Value} {news : List (Addr × Obj)} {a d : Addr} {expr : Bool}
  {n : Nat} {h1 h2 h3 : Int} {a1 a3 a5 : Tok} {v1 v2 v3 x1 x2 x3 x4 x5 x6 : Value} {i2 : Int} {t2 : Tok}
theorem exc_pos_K (F : Fr h₀ L s.heap m) (X : (K9 w.params).In h₀) (N : News h₀ L s.heap news) (her : (a, errObj d x1 x2 x3 x4 x5 x6) ∈ news) (hde : (d, dictOf (errEs h1 h2 h3 a1 a3 a5 v1 (.int i2 t2) v3) n) ∈ news)
    (hh : A.handled = none) (hdp : A.depth ≤ 900) (hu : A.units ≤ 9000) (h : ∀ h' tk, Fr h₀ L h' m → News h₀ L h' news → Q (.int i2 t2) { s with heap := h', toks := tk }) : wpAny (model prog w) A (getAttr (.ref a) (Str.ofString "pos") expr) Q E s :=
  exc_get rfl (InstAt.of_news' N her rfl rfl rfl hde) (X.keeps F.keep) fun t u => grew_use (s := { s with toks := u }) (x_pos (X.keeps F.keep) (N _ her).1 (N _ hde).1) F N hh hdp hu fun r h' tk e F' N' => ⟨e, e ▸ h h' tk F' N'⟩
theorem exc_expr0_K (F : Fr h₀ L s.heap m) (X : (K9 w.params).In h₀) (N : News h₀ L s.heap news) (her : (a, errObj d x1 x2 x3 x4 x5 x6) ∈ news) (hde : (d, dictOf (errEs h1 h2 h3 a1 a3 a5 v1 v2 .none) n) ∈ news)
    (hh : A.handled = none) (hdp : A.depth ≤ 900) (hu : A.units ≤ 9000) (h : ∀ h' tk, Fr h₀ L h' m → News h₀ L h' news → Q .none { s with heap := h', toks := tk }) : wpAny (model prog w) A (getAttr (.ref a) (Str.ofString "expr") expr) Q E s :=
  exc_get rfl (InstAt.of_news' N her rfl rfl rfl hde) (X.keeps F.keep) fun t u => grew_use (s := { s with toks := u }) (x_expr0 (X.keeps F.keep) (N _ her).1 (N _ hde).1) F N hh hdp hu fun r h' tk e F' N' => ⟨e, e ▸ h h' tk F' N'⟩
theorem exc_expr1_K {j : Addr} (F : Fr h₀ L s.heap m) (X : (K9 w.params).In h₀) (N : News h₀ L s.heap news) (her : (a, errObj d x1 x2 x3 x4 x5 x6) ∈ news) (hde : (d, dictOf (errEs h1 h2 h3 a1 a3 a5 v1 v2 (.ref j)) n) ∈ news)
    (hh : A.handled = none) (hdp : A.depth ≤ 900) (hu : A.units ≤ 9000) (h : ∀ h' tk, Fr h₀ L h' m → News h₀ L h' news → Q (.ref j) { s with heap := h', toks := tk }) : wpAny (model prog w) A (getAttr (.ref a) (Str.ofString "expr") expr) Q E s :=
  exc_get rfl (InstAt.of_news' N her rfl rfl rfl hde) (X.keeps F.keep) fun t u => grew_use (s := { s with toks := u }) (x_expr1 (X.keeps F.keep) (N _ her).1 (N _ hde).1) F N hh hdp hu fun r h' tk e F' N' => ⟨e, e ▸ h h' tk F' N'⟩
end
end VJ
end

section
open PySem PySem.W PyProof.Rows PySem.Calls PySem.Spec PyProof.V
namespace VJ
set_option maxRecDepth 100000
abbrev tupO (xs : List Value) (n : Nat) : Obj := { cls := .type "tuple", data := .seq xs.toArray n }
abbrev Led1 := List (Addr × Obj)
section
variable {K : Type} [DecidableEq K]
theorem valueAt_stored {kvs : List (K × Value)} {k j : K} {v : Value} : valueAt (stored kvs k v) j = if j = k then some v else valueAt kvs j := by
  unfold stored valueAt
  split
  · rename_i h
    induction kvs with
    | nil => simp at h
    | cons a r ih =>
      simp only [List.map_cons, List.find?_cons]
      by_cases ha : a.1 = k
      · simp only [ha, if_true]
        by_cases hj : j = k
        · subst hj; simp
        · rw [if_neg hj]
          have : ¬ k = j := fun e => hj e.symm
          simp only [this, decide_false]
          by_cases hr : r.any (fun kv => decide (kv.1 = k)) = true
          · have := ih hr
            rw [if_neg hj] at this
            exact this
          · have e : r.map (fun kv => if kv.1 = k then (kv.1, v) else kv) = r := by
              rw [Bool.not_eq_true, List.any_eq_false] at hr
              conv => rhs; rw [← List.map_id r]
              exact List.map_congr_left fun x hx => by
                have := hr x hx
                simp at this
                rw [if_neg this]; rfl
            rw [e]
      · rw [if_neg ha]
        have hr : r.any (fun kv => decide (kv.1 = k)) = true := by
          simp only [List.any_cons, ha, decide_false, Bool.false_or] at h
          exact h
        by_cases hj : a.1 = j
        · simp only [hj, decide_true]
          rw [if_neg (fun e => ha (hj.trans e))]
        · simp only [hj, decide_false]
          exact ih hr
  · rename_i h
    rw [List.find?_append]
    rw [Bool.not_eq_true, List.any_eq_false] at h
    by_cases hj : j = k
    · subst hj
      have : kvs.find? (fun kv => decide (kv.1 = j)) = none := List.find?_eq_none.mpr fun x hx => by have := h x hx; simpa using this
      rw [this]; simp
    · rw [if_neg hj]
      have : ¬ k = j := fun e => hj e.symm
      simp [this]
theorem mem_stored {kvs : List (K × Value)} {k : K} {v : Value} {q : K × Value} (h : q ∈ stored kvs k v) : q.1 = k ∨ ∃ r ∈ kvs, r.1 = q.1 := by
  unfold stored at h
  split at h
  · obtain ⟨r, hr, e⟩ := List.mem_map.mp h
    split at e
    · rename_i z; rw [← e]; exact .inl z
    · rw [← e]; exact .inr ⟨r, hr, rfl⟩
  · rcases List.mem_append.mp h with h | h
    · exact .inr ⟨q, h, rfl⟩
    · rw [List.mem_singleton.mp h]; exact .inl rfl
theorem valueAt_mem {kvs : List (K × Value)} {k : K} {v : Value} (h : valueAt kvs k = some v) : (k, v) ∈ kvs := by
  unfold valueAt at h
  obtain ⟨q, hq, rfl⟩ := Option.map_eq_some_iff.mp h
  have := List.find?_some hq
  have e : q.1 = k := of_decide_eq_true this
  rw [← e]
  exact List.mem_of_find?_eq_some hq
end
theorem nodup_len {α : Type} [DecidableEq α] : ∀ {l m : List α}, l.Nodup → (∀ x ∈ l, x ∈ m) → l.length ≤ m.length
  | [], _, _, _ => Nat.zero_le _
  | x :: l, m, hn, hs => by
    have hx := hs x (.head _)
    obtain ⟨h1, h2⟩ := List.nodup_cons.mp hn
    have := nodup_len (l := l) (m := m.erase x) h2 fun y hy => (List.mem_erase_of_ne (by intro e; subst e; exact h1 hy)).mpr (hs y (.tail _ hy))
    have h3 := List.length_erase_of_mem hx
    have h4 : 0 < m.length := List.length_pos_of_mem hx
    rw [List.length_cons]; omega
/-- the cache of a match: piece after piece -/
def cacheOf : Nat → List (Nat × Addr) → List (Int × Value)
  | _, [] => []
  | i, a :: r => ((i : Int), .ref a.2) :: cacheOf (i + 1) r
theorem cacheOf_length : ∀ {i : Nat} {cs : List (Nat × Addr)}, (cacheOf i cs).length = cs.length
  | _, [] => rfl
  | i, a :: r => by rw [cacheOf, List.length_cons, List.length_cons, cacheOf_length]
theorem cacheOf_key : ∀ {i : Nat} {cs : List (Nat × Addr)} {q : Int × Value}, q ∈ cacheOf i cs → (i : Int) ≤ q.1 ∧ q.1 < i + cs.length ∧ ∃ a ∈ cs, q.2 = .ref a.2
  | _, [], _, h => nomatch h
  | i, a :: r, q, h => by
    rcases List.mem_cons.mp h with rfl | h
    · exact ⟨Int.le_refl _, by simp; omega, a, .head _, rfl⟩
    · obtain ⟨h1, h2, b, hb, e⟩ := cacheOf_key h
      refine ⟨by omega, ?_, b, .tail _ hb, e⟩
      rw [List.length_cons]; push_cast at h2 ⊢; omega
theorem cacheOf_at : ∀ {i j : Nat} {cs : List (Nat × Addr)} {a : Nat × Addr}, cs[j]? = some a → valueAt (cacheOf i cs) ((i + j : Nat) : Int) = some (.ref a.2)
  | i, 0, b :: r, a, h => by
    simp only [List.getElem?_cons_zero, Option.some.injEq] at h
    subst h
    unfold valueAt cacheOf
    rw [List.find?_cons_of_pos (by simp)]; rfl
  | i, j + 1, b :: r, a, h => by
    simp only [List.getElem?_cons_succ] at h
    have := cacheOf_at (i := i + 1) h
    unfold valueAt cacheOf
    rw [List.find?_cons_of_neg (by simp; omega)]
    unfold valueAt at this
    rw [show i + (j + 1) = i + 1 + j by omega]
    exact this
  | _, _, [], _, h => by simp at h
theorem cacheOf_push : ∀ {i : Nat} {cs : List (Nat × Addr)} {a : Nat × Addr}, cacheOf i (cs ++ [a]) = cacheOf i cs ++ [(((i + cs.length : Nat) : Int), .ref a.2)]
  | i, [], a => rfl
  | i, b :: r, a => by
    rw [List.cons_append, cacheOf, cacheOf, cacheOf_push, List.length_cons, List.cons_append]
    rw [show i + 1 + r.length = i + (r.length + 1) by omega]
theorem cacheOf_stored {cs : List (Nat × Addr)} {a : Nat × Addr} : stored (cacheOf 0 cs) (cs.length : Int) (.ref a.2) = cacheOf 0 (cs ++ [a]) := by
  unfold stored
  rw [if_neg ?_, cacheOf_push, Nat.zero_add]
  intro h
  obtain ⟨q, hq, e⟩ := List.any_eq_true.mp h
  have := (cacheOf_key hq).2.1
  have e' := of_decide_eq_true e
  simp at this; omega

/-! the pieces as objects -/
def Ask.cls : Ask → Nat
  | .word _ => 367 | .chain _ _ => 425 | .choice _ _ => 451 | .look _ _ => 489 | .many _ _ _ => 528
def Ask.um : Ask → Nat
  | .word _ => 356 | .chain _ _ => 415 | .choice _ _ => 441 | .look _ _ => 478 | .many _ _ _ => 517
def MaxIs (mx : Value) (m : Int) : Prop := (m = -1 ∧ ∃ t, mx = .float 9218868437227405312 t) ∨ (0 ≤ m ∧ ∃ t, mx = .int m t)
def SlotsAre (news : Led1) (X : Nat → Addr) (nm : Str) (sl : Array (Option Value)) : Ask → Prop
  | .word x => x.length ≤ 2 ∧ ∃ t idt tn, sl = #[some (.str x t), some idt, some (.str nm tn)]
  | .chain o o2 => ∃ M n idt tn, sl = #[some (.ref M), some idt, some (.str nm tn)] ∧ (M, tupO [.ref (X o), .ref (X o2)] n) ∈ news
  | .choice o o2 => ∃ M n idt tn, sl = #[some (.ref M), some idt, some (.str nm tn)] ∧ (M, tupO [.ref (X o), .ref (X o2)] n) ∈ news
  | .look o g => ∃ M n idt tn, sl = #[some (.bool g), some (.ref M), some idt, some (.str nm tn)] ∧ (M, tupO [.ref (X o)] n) ∈ news
  | .many o l m => l ≤ 1 ∧ ∃ M n idt tn mx tl, sl = #[some mx, some (.int l tl), some (.ref M), some idt, some (.str nm tn)] ∧ (M, tupO [.ref (X o)] n) ∈ news ∧ MaxIs mx m
def ExprIs (news : Led1) (X D : Nat → Addr) (k : Nat) (a : Ask) : Prop :=
  ∃ sl nm, nm.length ≤ 1 ∧ (X k, (⟨.ref a.cls, some (D k), .plain, sl⟩ : Obj)) ∈ news ∧ SlotsAre news X nm sl a
def PairsAre (news : Led1) : List Addr → List (Int × Addr) → Prop
  | [], [] => True
  | t :: ts, q :: qs => (∃ tk n, (t, tupO [.int q.1 tk, .ref q.2] n) ∈ news) ∧ PairsAre news ts qs
  | _, _ => False
/-- the own dict of a piece: nothing, or its oids -/
def OidsAre (news : Led1) (d : Addr) (ps : List (Int × Addr)) : Prop :=
  (ps = [] ∧ ∃ n, (d, dictOf [] n) ∈ news) ∨ (∃ hsh tk T ts n n', (d, dictOf [⟨hsh, .str (Str.ofString "oids") tk, .ref T⟩] n) ∈ news ∧ (T, tupO (ts.map Value.ref) n') ∈ news ∧ PairsAre news ts ps)
def NodeAt (news : Led1) (nd : Addr) (p q : Int) : Prop := ∃ d c ex x t l1 l2, (nd, nodeObj d c ex x t p l1 q l2) ∈ news ∧ ∃ o, (d, o) ∈ news
def RepIs (news : Led1) (v : Option Value) (x : Option Int) (p : Nat) : Prop :=
  (x = none ∧ v = none) ∨ (x = some (-2) ∧ v = some (.ref 251)) ∨ (x = some (-1) ∧ v = some .none) ∨ ∃ (q : Nat) (nd : Addr), x = some (q : Int) ∧ v = some (.ref nd) ∧ NodeAt news nd p q
def ErrIs (news : Led1) (er dE : Addr) (X : Nat → Addr) (ks : List Nat) : Prop :=
  ∃ x1 x2 x3 x4 x5 x6 h1 h2 h3 a1 a3 a5 v1 i2 t2 v3 n, (er, errObj dE x1 x2 x3 x4 x5 x6) ∈ news ∧ (dE, dictOf (errEs h1 h2 h3 a1 a3 a5 v1 (.int i2 t2) v3) n) ∈ news ∧ (v3 = .none ∨ ∃ j ∈ ks, v3 = .ref (X j))
abbrev DAt (news : Led1) (a : Addr) : Prop := ∃ o, (a, o) ∈ news ∧ o.cls = .type "dict"
/-- what stands of a ledger when one dict of it is written -/
structure Kept (z : Addr) (news news' : Led1) : Prop where
  keep : ∀ q ∈ news, q.1 ≠ z → q ∈ news'
  adr : DAt news' z
  nd : ∀ q ∈ news, q.2.cls ≠ .type "dict" → q.1 ≠ z
section
variable {news news' : Led1} {z : Addr} {X D : Nat → Addr}
theorem Kept.plain (h : Kept z news news') {q : Addr × Obj} (hq : q ∈ news) (hc : q.2.cls ≠ .type "dict") : q ∈ news' := h.keep q hq (h.nd q hq hc)
theorem Kept.at (h : Kept z news news') {q : Addr × Obj} (hq : q ∈ news) : ∃ o, (q.1, o) ∈ news' := by
  by_cases e : q.1 = z
  · rw [e]; exact let ⟨o, a, _⟩ := h.adr; ⟨o, a⟩
  · exact ⟨q.2, h.keep q hq e⟩
theorem Kept.dat (h : Kept z news news') {a : Addr} (d : DAt news a) : DAt news' a := by
  by_cases e : a = z
  · rw [e]; exact h.adr
  · obtain ⟨o, ho, hc⟩ := d; exact ⟨o, h.keep _ ho e, hc⟩
theorem isDict_cls {K : Type} [DecidableEq K] {prog : Program} {w : World} {knd : KeyKind prog w K} {o : Obj} {kvs : List (K × Value)} (h : o.IsDictOf knd kvs) : o.cls = .type "dict" := let ⟨_, _, x, _⟩ := h; x.1
theorem tup_ne_dict : Value.type "tuple" ≠ .type "dict" := by decide
theorem SlotsAre.keep {nm : Str} {sl : Array (Option Value)} (h : ∀ q ∈ news, q.2.cls ≠ .type "dict" → q ∈ news') {a : Ask} (S : SlotsAre news X nm sl a) : SlotsAre news' X nm sl a := by
  cases a with
  | word x => exact S
  | chain o o2 => obtain ⟨M, n, i, t, e, hm⟩ := S; exact ⟨M, n, i, t, e, h _ hm tup_ne_dict⟩
  | choice o o2 => obtain ⟨M, n, i, t, e, hm⟩ := S; exact ⟨M, n, i, t, e, h _ hm tup_ne_dict⟩
  | look o g => obtain ⟨M, n, i, t, e, hm⟩ := S; exact ⟨M, n, i, t, e, h _ hm tup_ne_dict⟩
  | many o l m => obtain ⟨hl, M, n, i, t, mx, tl, e, hm, r⟩ := S; exact ⟨hl, M, n, i, t, mx, tl, e, h _ hm tup_ne_dict, r⟩
theorem ref_ne_dict {C : Addr} : Value.ref C ≠ .type "dict" := fun e => by cases e
theorem ExprIs.keep {k : Nat} {a : Ask} (h : ∀ q ∈ news, q.2.cls ≠ .type "dict" → q ∈ news') (S : ExprIs news X D k a) : ExprIs news' X D k a := by
  obtain ⟨sl, nm, hn, hm, r⟩ := S
  exact ⟨sl, nm, hn, h _ hm ref_ne_dict, r.keep h⟩
theorem PairsAre.keep (h : ∀ q ∈ news, q.2.cls ≠ .type "dict" → q ∈ news') : ∀ {ts : List Addr} {qs : List (Int × Addr)}, PairsAre news ts qs → PairsAre news' ts qs
  | [], [], _ => trivial
  | t :: ts, q :: qs, ⟨⟨tk, n, hm⟩, r⟩ => ⟨⟨tk, n, h _ hm tup_ne_dict⟩, r.keep h⟩
  | [], _ :: _, h => h.elim
  | _ :: _, [], h => h.elim
theorem OidsAre.keep {d : Addr} {ps : List (Int × Addr)} (h : ∀ q ∈ news, q.2.cls ≠ .type "dict" → q ∈ news') (hd : ∀ q ∈ news, q.1 = d → q ∈ news') (S : OidsAre news d ps) : OidsAre news' d ps := by
  rcases S with ⟨e, n, hm⟩ | ⟨hsh, tk, T, ts, n, n', h1, h2, h3⟩
  · exact .inl ⟨e, n, hd _ hm rfl⟩
  · exact .inr ⟨hsh, tk, T, ts, n, n', hd _ h1 rfl, h _ h2 tup_ne_dict, h3.keep h⟩
theorem NodeAt.keep {nd : Addr} {p q : Int} (h : ∀ q ∈ news, q.2.cls ≠ .type "dict" → q ∈ news') (ha : ∀ q ∈ news, ∃ o, (q.1, o) ∈ news') (S : NodeAt news nd p q) : NodeAt news' nd p q := by
  obtain ⟨d, c, ex, x, t, l1, l2, hm, o, ho⟩ := S
  exact ⟨d, c, ex, x, t, l1, l2, h _ hm ref_ne_dict, ha _ ho⟩
theorem RepIs.keep {v : Option Value} {x : Option Int} {p : Nat} (h : ∀ q ∈ news, q.2.cls ≠ .type "dict" → q ∈ news') (ha : ∀ q ∈ news, ∃ o, (q.1, o) ∈ news') (S : RepIs news v x p) : RepIs news' v x p := by
  rcases S with S | S | S | ⟨q, nd, e1, e2, S⟩
  · exact .inl S
  · exact .inr (.inl S)
  · exact .inr (.inr (.inl S))
  · exact .inr (.inr (.inr ⟨q, nd, e1, e2, S.keep h ha⟩))
theorem ErrIs.keep {er dE : Addr} {ks : List Nat} (h : ∀ q ∈ news, q.2.cls ≠ .type "dict" → q ∈ news') (hd : ∀ q ∈ news, q.1 = dE → q ∈ news') (S : ErrIs news er dE X ks) : ErrIs news' er dE X ks := by
  obtain ⟨x1, x2, x3, x4, x5, x6, h1, h2, h3, a1, a3, a5, v1, i2, t2, v3, n, e1, e2, e3⟩ := S
  exact ⟨x1, x2, x3, x4, x5, x6, h1, h2, h3, a1, a3, a5, v1, i2, t2, v3, n, h _ e1 ref_ne_dict, hd _ e2 rfl, e3⟩
end
structure MInv (prog : Program) (w : World) (news : Led1) (X D : Nat → Addr) (P : Nat → Ask) (ks : List Nat) (len B : Nat) (cd er dE : Addr) (mm : Memo) (cs : List (Nat × Addr)) : Prop where
  expr : ∀ k ∈ ks, ExprIs news X D k (P k)
  oid : ∀ k ∈ ks, ∃ ps, OidsAre news (D k) ps ∧ (∀ q ∈ ps, DAt news q.2) ∧
    (((∀ a ∈ cs, a.1 ≠ k) ∧ (∀ q ∈ ps, ∀ a ∈ cs, q.2 ≠ a.2) ∧ ps.length ≤ B) ∨ ∃ (i : Nat) (e : Addr) (ps' : List (Int × Addr)), cs[i]? = some (k, e) ∧ ps = ((i : Int), e) :: ps' ∧ ps'.length ≤ B)
  cache : ∃ o, (cd, o) ∈ news ∧ o.IsDictOf (intKind prog w) (cacheOf 0 cs)
  memo : ∀ a ∈ cs, a.1 ∈ ks ∧ ∃ o kvs, (a.2, o) ∈ news ∧ o.IsDictOf (intKind prog w) kvs ∧ (∀ q ∈ kvs, ∃ p : Nat, p ≤ len ∧ q.1 = p) ∧ ∀ p : Nat, p ≤ len → RepIs news (valueAt kvs (p : Int)) (mm a.1 p) p
  fresh : ∀ k ∈ ks, (∀ a ∈ cs, a.1 ≠ k) → ∀ p, p ≤ len → mm k p = none
  err : ErrIs news er dE X ks
  nodup : (cd :: dE :: (cs.map (·.2) ++ ks.map D)).Nodup
  own : (cs.map (·.1)).Nodup
  top : cd ≠ sysModules ∧ ∀ a ∈ cs, a.2 ≠ sysModules
section
variable {prog : Program} {w : World} {news news' : Led1} {X D : Nat → Addr} {P : Nat → Ask} {ks : List Nat} {len B : Nat} {cd er dE z : Addr} {mm : Memo} {cs : List (Nat × Addr)}
theorem MInv.sup (M : MInv prog w news X D P ks len B cd er dE mm cs) (h : ∀ q ∈ news, q ∈ news') : MInv prog w news' X D P ks len B cd er dE mm cs where
  expr k hk := (M.expr k hk).keep fun q hq _ => h q hq
  oid k hk := let ⟨ps, a, b, c⟩ := M.oid k hk; ⟨ps, a.keep (fun q hq _ => h q hq) (fun q hq _ => h q hq), fun q hq => let ⟨o, ho, hc⟩ := b q hq; ⟨o, h _ ho, hc⟩, c⟩
  cache := let ⟨o, a, b⟩ := M.cache; ⟨o, h _ a, b⟩
  memo a ha := let ⟨b, o, kvs, c, d, e, f⟩ := M.memo a ha; ⟨b, o, kvs, h _ c, d, e, fun p hp => (f p hp).keep (fun q hq _ => h q hq) fun q hq => ⟨q.2, h q hq⟩⟩
  fresh := M.fresh
  err := M.err.keep (fun q hq _ => h q hq) (fun q hq _ => h q hq)
  nodup := M.nodup
  own := M.own
  top := M.top
theorem map_inj {α β : Type} {f : α → β} : ∀ {l : List α}, (l.map f).Nodup → ∀ {a b : α}, a ∈ l → b ∈ l → f a = f b → a = b
  | x :: l, hn, a, b, ha, hb, e => by
    rw [List.map_cons, List.nodup_cons] at hn
    rcases List.mem_cons.mp ha with ha1 | ha1
    · rcases List.mem_cons.mp hb with hb1 | hb1
      · rw [ha1, hb1]
      · have : f x ∈ l.map f := by rw [← ha1, e]; exact List.mem_map_of_mem hb1
        exact absurd this hn.1
    · rcases List.mem_cons.mp hb with hb1 | hb1
      · have : f x ∈ l.map f := by rw [← hb1, ← e]; exact List.mem_map_of_mem ha1
        exact absurd this hn.1
      · exact map_inj hn.2 ha1 hb1 e
theorem MInv.nd (M : MInv prog w news X D P ks len B cd er dE mm cs) : cd ≠ dE ∧ (∀ a ∈ cs, cd ≠ a.2) ∧ (∀ k ∈ ks, cd ≠ D k) ∧ (∀ a ∈ cs, dE ≠ a.2) ∧ (∀ k ∈ ks, dE ≠ D k) ∧ (cs.map (·.2)).Nodup ∧ (ks.map D).Nodup ∧ ∀ a ∈ cs, ∀ k ∈ ks, a.2 ≠ D k := by
  have h := M.nodup
  rw [List.nodup_cons, List.nodup_cons, List.nodup_append] at h
  obtain ⟨h1, h2, h3, h4, h5⟩ := h
  simp only [List.mem_cons, List.mem_append, List.mem_map, not_or, not_exists, not_and] at h1 h2
  refine ⟨h1.1, fun a ha e => h1.2.1 a ha e.symm, fun k hk e => h1.2.2 k hk e.symm, fun a ha e => h2.1 a ha e.symm, fun k hk e => h2.2 k hk e.symm, h3, h4, fun a ha k hk => h5 _ (List.mem_map_of_mem ha) _ (List.mem_map_of_mem hk)⟩
theorem OidsAre.mem {d : Addr} {ps : List (Int × Addr)} (h : OidsAre news d ps) : ∃ o, (d, o) ∈ news := by
  rcases h with ⟨_, n, hm⟩ | ⟨hsh, tk, T, ts, n, n', h1, _, _⟩
  · exact ⟨_, hm⟩
  · exact ⟨_, h1⟩
/-- a value written into the cache of a piece -/
theorem MInv.put (M : MInv prog w news X D P ks len B cd er dE mm cs) {k p : Nat} {e : Addr} {v : Value} {x : Int} {kvs : List (Int × Value)} (ha : (k, e) ∈ cs) (Kp : Kept e news news') (hp : p ≤ len) (hkv : ∀ q ∈ kvs, ∃ p : Nat, p ≤ len ∧ q.1 = p)
    (hrp : ∀ p : Nat, p ≤ len → RepIs news (valueAt kvs (p : Int)) (mm k p) p) (ho : ∃ o', (e, o') ∈ news' ∧ o'.IsDictOf (intKind prog w) (stored kvs (p : Int) v)) (hrep : RepIs news' (some v) (some x) p) :
    MInv prog w news' X D P ks len B cd er dE (mm.set k p x) cs := by
  obtain ⟨n1, n2, n3, n4, n5, n6, n7, n8⟩ := M.nd
  have st : ∀ q ∈ news, q.2.cls ≠ .type "dict" → q ∈ news' := fun q hq hc => Kp.plain hq hc
  refine ⟨fun j hj => (M.expr j hj).keep st, fun j hj => ?_, ?_, fun a' ha' => ?_, fun j hj hno q hq => ?_, M.err.keep st fun q hq e' => Kp.keep q hq (by rw [e']; exact n4 _ ha), M.nodup, M.own, M.top⟩
  · obtain ⟨ps, a, b, c⟩ := M.oid j hj
    exact ⟨ps, a.keep st fun q hq e' => Kp.keep q hq (by rw [e']; exact (n8 _ ha j hj).symm), fun q hq => Kp.dat (b q hq), c⟩
  · obtain ⟨o, a, b⟩ := M.cache
    exact ⟨o, Kp.keep _ a (n2 _ ha), b⟩
  · by_cases z : a'.2 = e
    · obtain rfl : a' = (k, e) := map_inj n6 ha' ha z
      obtain ⟨o', h1, h2⟩ := ho
      refine ⟨(M.memo _ ha).1, o', _, h1, h2, fun q hq => ?_, fun p' hp' => ?_⟩
      · rcases mem_stored hq with e | ⟨r, hr, e⟩
        · exact ⟨p, hp, e⟩
        · rw [← e]; exact hkv r hr
      · rw [valueAt_stored]
        by_cases hpp : p' = p
        · subst hpp
          rw [if_pos rfl]
          unfold Memo.set
          rw [if_pos ⟨rfl, rfl⟩]
          exact hrep
        · rw [if_neg (by omega)]
          unfold Memo.set
          rw [if_neg (fun z => hpp z.2)]
          exact (hrp p' hp').keep st fun q hq => Kp.at hq
    · obtain ⟨h1, o, kvs', h2, h3, h4, h5⟩ := M.memo a' ha'
      refine ⟨h1, o, kvs', Kp.keep _ h2 z, h3, h4, fun p' hp' => ?_⟩
      have hk : a'.1 ≠ k := fun e' => z (congrArg Prod.snd (map_inj M.own ha' ha e'))
      unfold Memo.set
      rw [if_neg (fun z => hk z.1)]
      exact (h5 p' hp').keep st fun q hq => Kp.at hq
  · have : j ≠ k := fun e' => hno _ ha e'.symm
    unfold Memo.set
    rw [if_neg (fun z => this z.1)]
    exact M.fresh j hj hno q hq
/-- the error told anew -/
theorem MInv.err_set (M : MInv prog w news X D P ks len B cd er dE mm cs) (Kp : Kept dE news news') (hE : ErrIs news' er dE X ks) : MInv prog w news' X D P ks len B cd er dE mm cs := by
  obtain ⟨n1, n2, n3, n4, n5, n6, n7, n8⟩ := M.nd
  have st : ∀ q ∈ news, q.2.cls ≠ .type "dict" → q ∈ news' := fun q hq hc => Kp.plain hq hc
  refine ⟨fun j hj => (M.expr j hj).keep st, fun j hj => ?_, ?_, fun a' ha' => ?_, M.fresh, hE, M.nodup, M.own, M.top⟩
  · obtain ⟨ps, a, b, c⟩ := M.oid j hj
    exact ⟨ps, a.keep st fun q hq e' => Kp.keep q hq (by rw [e']; exact (n5 j hj).symm), fun q hq => Kp.dat (b q hq), c⟩
  · obtain ⟨o, a, b⟩ := M.cache
    exact ⟨o, Kp.keep _ a n1, b⟩
  · obtain ⟨h1, o, kvs', h2, h3, h4, h5⟩ := M.memo a' ha'
    exact ⟨h1, o, kvs', Kp.keep _ h2 (n4 _ ha').symm, h3, h4, fun p' hp' => (h5 p' hp').keep st fun q hq => Kp.at hq⟩
/-- a piece come to for the first time -/
theorem MInv.push (M : MInv prog w news X D P ks len B cd er dE mm cs) {k : Nat} {e : Addr} {ps : List (Int × Addr)} (hk : k ∈ ks) (hnew : ∀ a ∈ cs, a.1 ≠ k) (hps : ∀ q ∈ ps, DAt news q.2) (hpl : ps.length ≤ B) (he : ∀ q ∈ news, q.1 ≠ e)
    (st : ∀ q ∈ news, q.2.cls ≠ .type "dict" → q ∈ news') (adr : ∀ q ∈ news, ∃ o, (q.1, o) ∈ news') (dat : ∀ a, DAt news a → DAt news' a) (dct : ∀ q ∈ news, q.1 ≠ cd → q.1 ≠ D k → q ∈ news')
    (hc : ∃ o, (cd, o) ∈ news' ∧ o.IsDictOf (intKind prog w) (cacheOf 0 (cs ++ [(k, e)]))) (hec : ∃ o, (e, o) ∈ news' ∧ o.IsDictOf (intKind prog w) []) (hoid : OidsAre news' (D k) ((((cs.length : Nat) : Int), e) :: ps)) (ht : e ≠ sysModules) :
    MInv prog w news' X D P ks len B cd er dE mm (cs ++ [(k, e)]) := by
  obtain ⟨n1, n2, n3, n4, n5, n6, n7, n8⟩ := M.nd
  have csm : ∀ a ∈ cs, a.2 ≠ e := fun a ha => let ⟨_, o, _, h, _⟩ := M.memo a ha; he _ h
  have ksm : ∀ j ∈ ks, D j ≠ e := fun j hj => let ⟨_, a, _⟩ := M.oid j hj; let ⟨o, h⟩ := a.mem; he _ h
  refine ⟨fun j hj => (M.expr j hj).keep st, fun j hj => ?_, hc, fun a' ha' => ?_, fun j hj hno q hq => M.fresh j hj (fun a ha => hno a (List.mem_append_left _ ha)) q hq, M.err.keep st fun q hq e' => dct q hq (by rw [e']; exact n1.symm) (by rw [e']; exact n5 k hk), ?_, ?_, M.top.1, fun a ha => ?_⟩
  · by_cases hj' : j = k
    · subst hj'
      refine ⟨_, hoid, fun q hq => ?_, .inr ⟨cs.length, e, ps, by simp, rfl, hpl⟩⟩
      rcases List.mem_cons.mp hq with rfl | hq
      · obtain ⟨o, h, hd⟩ := hec; exact ⟨o, h, isDict_cls hd⟩
      · exact dat _ (hps q hq)
    · obtain ⟨ps', a, b, c⟩ := M.oid j hj
      refine ⟨ps', a.keep st fun q hq e' => dct q hq (by rw [e']; exact (n3 j hj).symm) (by rw [e']; exact fun z => hj' (map_inj n7 hj hk z)), fun q hq => dat _ (b q hq), ?_⟩
      rcases c with ⟨c1, c2, c3⟩ | ⟨i, e', ps'', c1, c2⟩
      · refine .inl ⟨fun a ha => ?_, fun q hq a ha => ?_, c3⟩
        · rcases List.mem_append.mp ha with ha | ha
          · exact c1 a ha
          · rw [List.mem_singleton.mp ha]; exact fun z => hj' z.symm
        · rcases List.mem_append.mp ha with ha | ha
          · exact c2 q hq a ha
          · rw [List.mem_singleton.mp ha]
            obtain ⟨o, ho, _⟩ := b q hq
            exact he _ ho
      · refine .inr ⟨i, e', ps'', ?_, c2⟩
        rw [List.getElem?_append_left (by exact (List.getElem?_eq_some_iff.mp c1).1)]
        exact c1
  · rcases List.mem_append.mp ha' with ha' | ha'
    · obtain ⟨h1, o, kvs', h2, h3, h4, h5⟩ := M.memo a' ha'
      exact ⟨h1, o, kvs', dct _ h2 (n2 _ ha').symm (n8 _ ha' k hk), h3, h4, fun p' hp' => (h5 p' hp').keep st adr⟩
    · rw [List.mem_singleton.mp ha']
      obtain ⟨o, h1, h2⟩ := hec
      exact ⟨hk, o, [], h1, h2, (fun _ h => nomatch h), fun p hp => .inl ⟨M.fresh k hk hnew p hp, rfl⟩⟩
  · have hp : (cd :: dE :: ((cs ++ [(k, e)]).map (·.2) ++ ks.map D)).Perm (e :: (cd :: dE :: (cs.map (·.2) ++ ks.map D))) := by
      rw [List.map_append, List.append_assoc]
      refine List.Perm.trans ?_ (List.Perm.swap _ _ _)
      refine .cons _ (List.Perm.trans ?_ (List.Perm.swap _ _ _))
      refine .cons _ ?_
      exact List.perm_middle
    rw [hp.nodup_iff, List.nodup_cons]
    refine ⟨?_, M.nodup⟩
    simp only [List.mem_cons, List.mem_append, List.mem_map, not_or, not_exists, not_and]
    refine ⟨?_, ?_, fun a ha z => csm a ha z, fun j hj z => ksm j hj z⟩
    · obtain ⟨o, h, _⟩ := M.cache
      exact fun z => he _ h z.symm
    · obtain ⟨x1, x2, x3, x4, x5, x6, h1, h2, h3, a1, a3, a5, v1, i2, t2, v3, n, e1, e2, e3⟩ := M.err
      exact fun z => he _ e2 z.symm
  · rw [List.map_append, List.nodup_append]
    refine ⟨M.own, by simp, fun a ha b hb => ?_⟩
    obtain ⟨a', ha', rfl⟩ := List.mem_map.mp ha
    rw [List.mem_singleton.mp hb]
    exact hnew a' ha'
  · rcases List.mem_append.mp ha with ha | ha
    · exact M.top.2 a ha
    · rw [List.mem_singleton.mp ha]; exact ht
end
end VJ
end

section
open PySem PySem.W PyProof.Rows PySem.Calls PySem.Spec PyProof.V
namespace VJ
set_option maxRecDepth 100000
section
variable {prog : Program} {w : World} {A₀ A : Around} {s : Shared} {base h₀ : Heap} {outer : List Env} {L cc : Addr} {m mg mb : Str → Option Value} {env : Env} {news : List (Addr × Obj)} {K : Frag} {p : Program} {loose : List Str} {mean : ExcName → Option Value}
  {R : Result → Shared → Prop} {name qual : Str} {params : Arguments} {body : List Stmt} {scope : Scope} {dV kV doc pm cdv ct oc : Value} {an od : Option Addr} {osl : Array (Option Value)} {f : Addr} {args : Args} {binds : List (Str × Value)}
/-- the frame of a def that closes over its class, its arguments bound -/
theorem ks_frame {E : Value → Shared → Prop} (B : Below A₀ base outer h₀) (F : Fr h₀ L s.heap m) (N : News h₀ L s.heap news) (hlim : h₀.NoLimit) (hA : A.frames = some (env :: outer)) (hf : env.frame = some L) (hke : env.scope.kind = .function)
    (hloc : ∀ y ∈ binds, scope.names.lookup y.1 = some .local)
    (h : ∀ g L' h₁, Fr h₀ L g m → Fr g L' h₁ (fun y => binds.reverse.lookup y) → News g L' h₁ news → Below A base (env :: outer) g → h₀.StaysIn g →
      _root_.PySem.wpAt (model prog w) (A.deeper (ksEnv qual scope L' f cdv cc)) (.func body (ksEnv qual scope L' f cdv cc)) (execs body (ksEnv qual scope L' f cdv cc))
        (fun fl s' => LeaveK h₀ L m g R (match fl with | .ret v => v | _ => .none) s')
        (fun e s' => wpAny (model prog w) (A.deeper (ksEnv qual scope L' f cdv cc)) (leaving (ksEnv qual scope L' f cdv cc) e) (fun _ s'' => R (.error e) s'') (fun e' s'' => R (.error e') s'') s')
        { s with heap := h₁, toks := s.toks + binds.length })
    (hcell : ∀ x ∈ scope.names, x.2 ≠ .cell) (hk : scope.kind = .function) :
    wpAny (model prog w) A.in1 (newFunctionEnv scope mainGlobals [("__class__", cc)] binds (qual ++ ".<locals>.") (some f) cdv none builtinsNs) (fun env' s₂ => s₂.heap.NoLimit ∧ codeAny (model prog w) A (.func body env') R s₂) E s := by
  obtain ⟨FG, BG, st, lv⟩ := groundX (R := R) B F N hA hf hke
  refine wpAny_newFunctionEnv hcell hloc (fun h₁ hns hsb => ⟨(hlim.keeps F.keep).fresh _ hsb, ks_codeAny_funcAt ?_⟩) hk
  have hk₁ : ∀ b o, s.heap.get? b = some o → h₁.get? b = some o := fun b o e => hsb.extBut b o (Nat.ne_of_lt (Heap.lt_size e)) (Heap.get?_push_of_some _ e)
  exact ks_wpAt_mono (h _ s.heap.objs.size h₁ FG ⟨hns, fun b o e => hk₁ b o (of_hideAll _ e), Nat.le_of_eq (hideAll_size _ _)⟩
    (fun p hp => ⟨hk₁ _ _ (N p hp).1, Nat.ne_of_lt (Heap.lt_size (N p hp).1), hideAll_none _ (List.mem_map_of_mem hp)⟩) BG st) (fun fl s' hl => lv _ _ hl) fun _ _ y => y
/-- such a def called, further words gathered in a dict -/
theorem ks_more {nm : Str} {ex front : List (Str × Value)} {g₁ : Addr → Sem (List (Str × Value))}
    (B : Below A₀ base outer h₀) (F : Fr h₀ L s.heap m) (X₀ : K.In h₀) (N : News h₀ L s.heap news) (T : Top p loose mean mg mb h₀) (hA : A.frames = some (env :: outer)) (hf : env.frame = some L) (hke : env.scope.kind = .function)
    (ho : K.lookup f = some ⟨oc, od, .func (ksFn name qual params body scope dV kV doc pm an cdv ct cc), osl⟩) (hcd : codeIn K cdv qual = true) (hroom : A.depth < recursionLimit)
    (_hx : args.kw.filter (fun x => !ownKw params x.1) = ex) (_hnm : params.kwarg.map (·.arg) = some nm) (hn : kwDistinct ex = true)
    (_hfr : peek K ⟨prog, w.params⟩ (bindArgs (fnCut (ksFn name qual params body scope dV kV doc pm an cdv ct cc)) (argsCut params args)) = some front)
    (hp : peekA K ⟨prog, w.params⟩ (bindArgs (ksFn name qual params body scope dV kV doc pm an cdv ct cc) args) = some (dictOf [] 0, g₁))
    (hk₁ : ∀ D, g₁ D = (forIn ex PUnit.unit (fun x _ => (nsSet D x.1 x.2 >>= fun _ => pure (ForInStep.yield PUnit.unit))) >>= fun _ => pure (front ++ [(nm, Value.ref D)])))
    (hloc : ∀ D, ∀ y ∈ front ++ [(nm, Value.ref D)], scope.names.lookup y.1 = some .local)
    (h : ∀ D g L' h₁ tk n, (∀ p ∈ news, p.1 < D) → (D == sysModules) = false → Fr h₀ L g m → Fr g L' h₁ (fun y => (front ++ [(nm, Value.ref D)]).reverse.lookup y) → News g L' h₁ ((D, dictOf (kwEs w.params s.toks ex) n) :: news) → Below A base (env :: outer) g → K.In g → Top p loose mean mg mb g →
      _root_.PySem.wpAt (model prog w) (A.deeper (ksEnv qual scope L' f cdv cc)) (.func body (ksEnv qual scope L' f cdv cc)) (execs body (ksEnv qual scope L' f cdv cc))
        (fun fl s' => LeaveK h₀ L m g R (match fl with | .ret v => v | _ => .none) s')
        (fun e s' => wpAny (model prog w) (A.deeper (ksEnv qual scope L' f cdv cc)) (leaving (ksEnv qual scope L' f cdv cc) e) (fun _ s'' => R (.error e) s'') (fun e' s'' => R (.error e') s'') s')
        { s with heap := h₁, toks := tk })
    (hco : scope.isCoroutine = false) (hgen : scope.isGenerator = false) (hk : scope.kind = .function)
    (hcell : ∀ x ∈ scope.names, x.2 ≠ .cell) : codeAny (model prog w) A (.call (.ref f) args) R s := by
  have hn' := kwDistinct_nodup hn
  refine codeAny_call_function (fd := ksFn name qual params body scope dV kV doc pm an cdv ct cc) (body := body) hroom ((X₀.keeps F.keep) _ _ ho) rfl hco hgen rfl (codeRec_of (X₀.keeps F.keep) hcd) ?_
  refine wp_of_peekA (o := dictOf [] 0) F N (X₀.keeps F.keep) rfl _ g₁ hp fun h' F' N' l => ?_
  rw [hk₁]
  refine wpAny_bind (kp_fill ex { s with heap := h' } [] 0 F' N' (fun p hp => Nat.ne_of_lt (l p hp)) (fun _ he => nomatch he) (fun _ he => nomatch he) hn' fun h'' F'' N'' => wpAny_pure ?_)
  exact ks_frame (s := { s with heap := h'', toks := s.toks + ex.length }) B F'' N'' T.nolimit hA hf hke (hloc _)
    (fun g L' h₁ FG FL NG BG st => h _ g L' h₁ _ _ l (F.notModules (modules_low T.nolimit)) FG FL NG BG (X₀.keeps st) (T.keeps st)) hcell hk
/-- such a def called, further places in a tuple, further words in a dict -/
theorem ks_both {vs : List Value} {nm nr : Str} {ex front : List (Str × Value)} {g₁ : Addr → Sem (List (Str × Value))} {g₂ : Addr → Addr → Sem (List (Str × Value))}
    (B : Below A₀ base outer h₀) (F : Fr h₀ L s.heap m) (X₀ : K.In h₀) (N : News h₀ L s.heap news) (T : Top p loose mean mg mb h₀) (hA : A.frames = some (env :: outer)) (hf : env.frame = some L) (hke : env.scope.kind = .function)
    (ho : K.lookup f = some ⟨oc, od, .func (ksFn name qual params body scope dV kV doc pm an cdv ct cc), osl⟩) (hcd : codeIn K cdv qual = true) (hroom : A.depth < recursionLimit)
    (_hv : args.pos.drop (params.posonlyargs.length + params.args.length) = vs) (_hx : args.kw.filter (fun x => !ownKw params x.1) = ex) (_hnr : params.vararg.map (·.arg) = some nr) (_hnm : params.kwarg.map (·.arg) = some nm) (hn : kwDistinct ex = true)
    (_hfr : peek K ⟨prog, w.params⟩ (bindArgs (fnCut (ksFn name qual params body scope dV kV doc pm an cdv ct cc)) (argsCut params args)) = some front)
    (hp : peekA K ⟨prog, w.params⟩ (bindArgs (ksFn name qual params body scope dV kV doc pm an cdv ct cc) args) = some (({ cls := .type "tuple", data := .seq vs.toArray } : Obj), g₁))
    (hp₂ : ∀ D, peekA K ⟨prog, w.params⟩ (g₁ D) = some (dictOf [] 0, g₂ D))
    (hk₂ : ∀ C D, g₂ C D = (forIn ex PUnit.unit (fun x _ => (nsSet D x.1 x.2 >>= fun _ => pure (ForInStep.yield PUnit.unit))) >>= fun _ => pure (front ++ [(nr, Value.ref C)] ++ [(nm, Value.ref D)])))
    (hloc : ∀ C D, ∀ y ∈ front ++ [(nr, Value.ref C)] ++ [(nm, Value.ref D)], scope.names.lookup y.1 = some .local)
    (h : ∀ C D o g L' h₁ tk, (∀ p ∈ news, p.1 < C) → C < D → (D == sysModules) = false → o.IsDictOf (strKind prog w) ex → Fr h₀ L g m → Fr g L' h₁ (fun y => (front ++ [(nr, Value.ref C)] ++ [(nm, Value.ref D)]).reverse.lookup y) →
      News g L' h₁ ((D, o) :: (C, ({ cls := .type "tuple", data := .seq vs.toArray } : Obj)) :: news) → Below A base (env :: outer) g → K.In g → Top p loose mean mg mb g →
      _root_.PySem.wpAt (model prog w) (A.deeper (ksEnv qual scope L' f cdv cc)) (.func body (ksEnv qual scope L' f cdv cc)) (execs body (ksEnv qual scope L' f cdv cc))
        (fun fl s' => LeaveK h₀ L m g R (match fl with | .ret v => v | _ => .none) s')
        (fun e s' => wpAny (model prog w) (A.deeper (ksEnv qual scope L' f cdv cc)) (leaving (ksEnv qual scope L' f cdv cc) e) (fun _ s'' => R (.error e) s'') (fun e' s'' => R (.error e') s'') s')
        { s with heap := h₁, toks := tk })
    (hco : scope.isCoroutine = false) (hgen : scope.isGenerator = false) (hk : scope.kind = .function)
    (hcell : ∀ x ∈ scope.names, x.2 ≠ .cell) : codeAny (model prog w) A (.call (.ref f) args) R s := by
  have hn' := kwDistinct_nodup hn
  refine codeAny_call_function (fd := ksFn name qual params body scope dV kV doc pm an cdv ct cc) (body := body) hroom ((X₀.keeps F.keep) _ _ ho) rfl hco hgen rfl (codeRec_of (X₀.keeps F.keep) hcd) ?_
  refine wp_of_peekA (o := ({ cls := .type "tuple", data := .seq vs.toArray } : Obj)) F N (X₀.keeps F.keep) rfl _ g₁ hp fun h' F' N' l => ?_
  refine wp_of_peekA (s := { s with heap := h' }) (o := dictOf [] 0) F' N' (X₀.keeps F'.keep) rfl _ (g₂ s.heap.objs.size) (hp₂ _) fun h'' F'' N'' l' => ?_
  rw [hk₂]
  refine wpAny_bind (kp_fill ex { s with heap := h'' } [] 0 F'' N'' (fun p hp => Nat.ne_of_lt (l' p hp)) (fun _ he => nomatch he) (fun _ he => nomatch he) hn' fun h₃ F₃ N₃ => wpAny_pure ?_)
  exact ks_frame (s := { s with heap := h₃, toks := s.toks + ex.length }) B F₃ N₃ T.nolimit hA hf hke (hloc _ _)
    (fun g L' h₁ FG FL NG BG st => h _ _ _ g L' h₁ _ l (l' _ (.head _)) (F'.notModules (modules_low T.nolimit)) (kp_isDict s.toks (0 + ex.length) hn') FG FL NG BG (X₀.keeps st) (T.keeps st)) hcell hk
end
end VJ
end

section
open PySem PySem.W PyProof.Rows PySem.Calls
namespace VJ
set_option maxRecDepth 100000
theorem fillC1 : K9 = K9 ∧ PySem.Challenge.rw_vj0024_01 = PySem.Challenge.rw_vj0024_01 := by
  k_fill
  exact ⟨rfl, rfl⟩
theorem allNe1 {d x : Addr} {l : List (Addr × Obj)} (h : ∀ p ∈ l, p.1 < d) (e : @LT.lt Nat _ d x) : ∀ p ∈ l, p.1 ≠ x := fun p hp => Nat.ne_of_lt (Nat.lt_trans (h p hp) e)
local macro_rules | `(tactic| k_all) => `(tactic| first | assumption | exact allNe1 (by assumption) (by omega))
local macro_rules | `(tactic| k_room) => `(tactic| first | omega | (simp only [depth_under_make, depth_under_kw, depth_in1, depth_deeper]; omega))
local macro_rules | `(tactic| ks_enter) => `(tactic| (refine' ks_code_super ?k1 ?k2 ?k3 ?k4 ?k5 ?kA ?kF ?kK ?k6 ?k7 ?k8 ?k9 ?kB ?_ ?c1 ?c2 ?c3 ?c4; (case kA => exact rfl); (case kF => exact rfl); (case kK => exact rfl); (case k1 => k_asm); (case k2 => k_asm); (case k3 => k_asm); (case k4 => k_asm); (case k5 => k_asm); (case k6 => k_is); (case k7 => k_is); (case k8 => k_room); (case k9 => exact binds_K (by k_in) rfl (by k_is) rfl rfl rfl); (case kB => exact locs rfl); (case c1 => decide); (case c2 => exact rfl); (case c3 => exact rfl); (case c4 => exact rfl); intro g' L' h' FG' F' N' B' X' T' l1; (try k_lt l1); (try dsimp only); (try k_lift B')))
local macro_rules | `(tactic| ks_enter) => `(tactic| (refine' ks_both ?k1 ?k2 ?k3 ?k4 ?k5 ?kA ?kF ?kK ?k6 ?k7 ?k8 ?kV ?kX ?kQ ?kM ?kN ?kR ?kP ?kS ?kT ?kB ?_ ?c2 ?c3 ?c4 ?c5; (case kA => exact rfl); (case kF => exact rfl); (case kK => exact rfl); (case k1 => k_asm); (case k2 => k_asm); (case k3 => k_asm); (case k4 => k_asm); (case k5 => k_asm); (case k6 => k_is); (case k7 => k_is); (case k8 => k_room); (case kV => kp_lit); (case kX => kp_lit); (case kQ => exact rfl); (case kM => exact rfl); (case kN => exact rfl); (case kR => exact rfl); (case kP => exact rfl); (case kS => exact fun _ => rfl); (case kT => exact fun _ _ => rfl); (case kB => exact fun _ _ => locs rfl); (case c5 => decide); (case c2 => exact rfl); (case c3 => exact rfl); (case c4 => exact rfl); intro C' D' o' g' L' h' tk' l1 l2 lo' hs' FG' F' N' B' X' T'; (try k_lt l1); (try k_lt2 l2); (try dsimp only); (try k_lift B')))
local macro_rules | `(tactic| walk_at "wpAt") => `(tactic| (ks_step "attributeBase Call"; k_here; k_dflt (refine ks_node (by k_asm) (by k_asm) (by k_asm) (by k_asm) (by k_is) (by rfl) (by rfl) (by k_inst) (by k_is) (by rfl) (by assumption) (by k_is) (by k_is) (by k_is) (by k_is) (by decide) (by rfl) (by rfl) (by rfl) (by rfl) (by assumption) (by first | boot_by_name | rfl | kernel_rfl) ?_; intro so' h' F' N' l1; (try k_lt l1))))
local macro_rules | `(tactic| walk_at "wpAt") => `(tactic| (k_dflt (ks_step "exec Expr"; refine ks_wpAt_Expr_any ?_)))
local macro_rules | `(tactic| walk_at "wpAt") => `(tactic| (k_dflt (ks_step "eval Call"; refine ks_wpAt_MethodCall ?_)))
abbrev gEnv (L : Addr) : Env := envOf (Str.ofString "_law_grown")
          { kind := ScopeKind.function,
            names :=
              [(Str.ofString "state", NameKind.local), (Str.ofString "deep", NameKind.local),
                (Str.ofString "plans", NameKind.local), (Str.ofString "name", NameKind.local),
                (Str.ofString "pick", NameKind.local), (Str.ofString "other", NameKind.local),
                (Str.ofString "word", NameKind.local), (Str.ofString "one", NameKind.local),
                (Str.ofString "first", NameKind.local), (Str.ofString "least", NameKind.local),
                (Str.ofString "most", NameKind.local), (Str.ofString "against", NameKind.local),
                (Str.ofString "two", NameKind.local), (Str.ofString "second", NameKind.local),
                (Str.ofString "_law_next", NameKind.globalImplicit),
                (Str.ofString "LazyReference", NameKind.globalImplicit), (Str.ofString "len", NameKind.globalImplicit),
                (Str.ofString "Literal", NameKind.globalImplicit), (Str.ofString "_law_grown", NameKind.globalImplicit),
                (Str.ofString "Quantifier", NameKind.globalImplicit),
                (Str.ofString "Lookahead", NameKind.globalImplicit), (Str.ofString "OneOf", NameKind.globalImplicit),
                (Str.ofString "Sequence", NameKind.globalImplicit)],
            isGenerator := false, isCoroutine := false } L 574 (.ref 573)
theorem sub2 {a b : Addr × Obj} {l news : List (Addr × Obj)} (ha : List.Mem a l) (hb : List.Mem b l) (hn : ∀ q ∈ news, List.Mem q l) : ∀ q ∈ a :: b :: news, q ∈ l := fun q hq => by
  rcases List.mem_cons.mp hq with rfl | hq
  · exact ha
  rcases List.mem_cons.mp hq with rfl | hq
  · exact hb
  · exact hn q hq
theorem sub3 {a b c : Addr × Obj} {l news : List (Addr × Obj)} (ha : List.Mem a l) (hb : List.Mem b l) (hc : List.Mem c l) (hn : ∀ q ∈ news, List.Mem q l) : ∀ q ∈ a :: b :: c :: news, q ∈ l := fun q hq => by
  rcases List.mem_cons.mp hq with rfl | hq
  · exact ha
  · exact sub2 hb hc hn q hq
abbrev exprO (C d : Addr) (sl : Array (Option Value)) : Obj := ⟨.ref C, some d, .plain, sl⟩
abbrev tupOf (xs : List Value) : Obj := { cls := .type "tuple", data := .seq xs.toArray 0 }
section
variable {prog : Program} {w : World} {dp un : Nat} {gd : Option (List Code)} {env : Env} {outer : List Env} {base G : Heap} {p : Program} {loose : List Str} {mean : ExcName → Option Value} {mg mb : Str → Option Value} {s : Shared} {L : Addr} {m : Str → Option Value} {news : List (Addr × Obj)} 
set_option maxHeartbeats 4000000 in
theorem lit_K {x : Str} {t : Tok} {E Q : Value → Shared → Prop} (pf : (prog.main.file == Str.ofString "/claim/cut.py") = true) (ps : (prog.main.scope.names.lookup (Str.ofString "super")).isSome = false) (hdd : dp + 20 < recursionLimit) (hu : un + 60 < cLine) (F : Fr G L s.heap m) (N : News G L s.heap news) (B : Below { handled := none, depth := dp, frames := some (env :: outer), guards := gd, units := un } base (env :: outer) G) (X : (K9 w.params).In G) (T : Top p loose mean mg mb G)
    (h : ∀ a d idt tn h' tk', Fr G L h' m → News G L h' ((a, exprO 367 d #[some (.str x t), some idt, some (.str (Str.ofString "") tn)]) :: (d, dictOf [] 0) :: news) → (∀ q ∈ news, q.1 < d) → @LT.lt Nat _ d a → Q (.ref a) { s with heap := h', toks := tk' }) :
    wpAny (model prog w) (Around.deeper { handled := none, depth := dp, frames := some (env :: outer), guards := gd, units := un } (gEnv L)) (call (.ref 367) [.str x t]) Q E s := by
  k_steps
  rename News _ _ _ _ => N9
  rename Fr _ _ _ _ => F9
  exact h _ _ _ _ _ _ F9 (fun q hq => N9 q (sub2 (by k_mem) (by k_mem) (fun q hq => by (repeat (refine List.Mem.tail _ ?_)); exact hq) q hq)) (by assumption) (by assumption)
set_option maxHeartbeats 4000000 in
theorem one_K {a1 b1 : Addr} {x : Str} {t : Tok} {E Q : Value → Shared → Prop} (pf : (prog.main.file == Str.ofString "/claim/cut.py") = true) (ps : (prog.main.scope.names.lookup (Str.ofString "super")).isSome = false) (hdd : dp + 20 < recursionLimit) (hu : un + 60 < cLine) (F : Fr G L s.heap m) (N : News G L s.heap news) (B : Below { handled := none, depth := dp, frames := some (env :: outer), guards := gd, units := un } base (env :: outer) G) (X : (K9 w.params).In G) (T : Top p loose mean mg mb G)
    (h : ∀ a d M idt tn h' tk', Fr G L h' m → News G L h' ((a, exprO 451 d #[some (.ref M), some idt, some (.str x tn)]) :: (d, dictOf [] 0) :: (M, tupOf [.ref a1, .ref b1]) :: news) → (∀ q ∈ news, q.1 < d) → @LT.lt Nat _ d a → @LT.lt Nat _ a M → Q (.ref a) { s with heap := h', toks := tk' }) :
    wpAny (model prog w) (Around.deeper { handled := none, depth := dp, frames := some (env :: outer), guards := gd, units := un } (gEnv L)) (call (.ref 451) [.ref a1, .ref b1] [(Str.ofString "name", .str x t)]) Q E s := by
  k_steps
  rename News _ _ _ _ => N9
  rename Fr _ _ _ _ => F9
  exact h _ _ _ _ _ _ _ F9 (fun q hq => N9 q (sub3 (by k_mem) (by k_mem) (by k_mem) (fun q hq => by (repeat (refine List.Mem.tail _ ?_)); exact hq) q hq)) (by assumption) (by assumption) (by omega)
set_option maxHeartbeats 4000000 in
theorem seq_K {a1 b1 : Addr} {x : Str} {t : Tok} {E Q : Value → Shared → Prop} (pf : (prog.main.file == Str.ofString "/claim/cut.py") = true) (ps : (prog.main.scope.names.lookup (Str.ofString "super")).isSome = false) (hdd : dp + 20 < recursionLimit) (hu : un + 60 < cLine) (F : Fr G L s.heap m) (N : News G L s.heap news) (B : Below { handled := none, depth := dp, frames := some (env :: outer), guards := gd, units := un } base (env :: outer) G) (X : (K9 w.params).In G) (T : Top p loose mean mg mb G)
    (h : ∀ a d M idt tn h' tk', Fr G L h' m → News G L h' ((a, exprO 425 d #[some (.ref M), some idt, some (.str x tn)]) :: (d, dictOf [] 0) :: (M, tupOf [.ref a1, .ref b1]) :: news) → (∀ q ∈ news, q.1 < d) → @LT.lt Nat _ d a → @LT.lt Nat _ a M → Q (.ref a) { s with heap := h', toks := tk' }) :
    wpAny (model prog w) (Around.deeper { handled := none, depth := dp, frames := some (env :: outer), guards := gd, units := un } (gEnv L)) (call (.ref 425) [.ref a1, .ref b1] [(Str.ofString "name", .str x t)]) Q E s := by
  k_steps
  rename News _ _ _ _ => N9
  rename Fr _ _ _ _ => F9
  exact h _ _ _ _ _ _ _ F9 (fun q hq => N9 q (sub3 (by k_mem) (by k_mem) (by k_mem) (fun q hq => by (repeat (refine List.Mem.tail _ ?_)); exact hq) q hq)) (by assumption) (by assumption) (by omega)
end
end VJ
end

section
open PySem PySem.W PyProof.Rows PySem.Calls PySem.W.X
namespace VJ
set_option maxRecDepth 100000
theorem fillC3 : K9 = K9 ∧ PySem.Challenge.rw_vj0024_01 = PySem.Challenge.rw_vj0024_01 := by
  k_fill
  exact ⟨rfl, rfl⟩
/-- a reference by name -/
abbrev lazyObj (d : Addr) (x : Str) (t : Tok) : Obj := { cls := .ref 556, dict := some d, data := .prim (.str x t) }
section
variable {prog : Program} {w : World} {s : Shared} {x : Str} {t : Tok}
local macro_rules | `(tactic| x_close) => `(tactic| (refine' ⟨_, _, _, _, _, rfl, rfl, ?D⟩; (case D => assumption)))
set_option maxHeartbeats 400000 in
theorem xlz (hx : x.length = 1) (X : (K9 w.params).In s.heap) :
    wpAny (model prog w) A9 (call (.ref 556) [.str x t] []) (fun v s' => ∃ a d h tk tk0, v = .ref a ∧ s' = ⟨h, s.gens, s.drawn, tk, s.os⟩ ∧ Mem s.heap h [] [(a, lazyObj d x tk0), (d, dictOf [] 0)]) (fun _ _ => False) s := by
  x_run
end
section
variable {prog : Program} {w : World} {A : Around} {E : Value → Shared → Prop} {Q : Value → Shared → Prop} {s : Shared} {h₀ : Heap} {L : Addr} {m : Str → Option Value} {news : List (Addr × Obj)} {x : Str} {t : Tok}
theorem lazy_K (hx : x.length = 1) (F : Fr h₀ L s.heap m) (X : (K9 w.params).In h₀) (N : News h₀ L s.heap news) (hh : A.handled = none) (hdp : A.depth ≤ 900) (hu : A.units ≤ 9000)
    (h : ∀ a d tk0 h' tk, Fr h₀ L h' m → News h₀ L h' ((a, lazyObj d x tk0) :: (d, dictOf [] 0) :: news) → (∀ q ∈ news, q.1 ≠ a ∧ q.1 ≠ d) → Q (.ref a) { s with heap := h', toks := tk }) : wpAny (model prog w) A (call (.ref 556) [.str x t]) Q E s := by
  refine wpAny_mono (wide_around (xlz hx (X.keeps F.keep)) hh hdp hu) (fun r s' q => ?_) fun _ _ e => e.elim
  obtain ⟨a, d, h', tk, tk0, rfl, rfl, D⟩ := q
  have G : Grew s.heap h' [(a, lazyObj d x tk0), (d, dictOf [] 0)] := grew_cons D (.head _) (grew1 D (.tail _ (.head _)))
  exact h a d tk0 h' tk (grew_fr F G) (grew_news F N G) fun q hq => ⟨grew_ne N G (.head _) hq, grew_ne N G (.tail _ (.head _)) hq⟩
end
end VJ
end

section
open PySem PySem.W PyProof.Rows PySem.Calls PySem.Spec PyProof.V
namespace VJ
set_option maxRecDepth 100000
/-! what `_law_grown` leaves behind -/
def nameOf (c : Nat) : Str := Txt.item (Str.ofString "pqr") (c : Int)
theorem nameOf_len {c : Nat} (h : c < 3) : (nameOf c).length = 1 := by
  match c, h with
  | 0, _ => decide +kernel
  | 1, _ => decide +kernel
  | 2, _ => decide +kernel
def RefOk (rest : Led1) (X : Nat → Addr) (k o : Nat) (y : Addr) : Prop := (o < 3 ∧ ∃ d tk, (y, lazyObj d (nameOf o) tk) ∈ rest ∧ (d, dictOf [] 0) ∈ rest) ∨ (3 ≤ o ∧ o < k ∧ y = X o)
def Ent.kids : Ent → List Nat
  | .rule _ => [] | .word _ => [] | .many o _ _ => [o] | .look o _ => [o] | .choice o p => [o, p] | .chain o p => [o, p]
def Raw (rest : Led1) (X D : Nat → Addr) (k : Nat) : Ent → Prop
  | .rule _ => False
  | .word x => x.length ≤ 2 ∧ ∃ t idt nm tn, nm.length ≤ 1 ∧ (X k, exprO 367 (D k) #[some (.str x t), some idt, some (.str nm tn)]) ∈ rest
  | .many o l m => l ≤ 1 ∧ ∃ M idt nm tn mx tl y, nm.length ≤ 1 ∧ (X k, exprO 528 (D k) #[some mx, some (.int l tl), some (.ref M), some idt, some (.str nm tn)]) ∈ rest ∧ (M, tupOf [.ref y]) ∈ rest ∧ MaxIs mx m ∧ RefOk rest X k o y
  | .look o g => ∃ M idt nm tn y, nm.length ≤ 1 ∧ (X k, exprO 489 (D k) #[some (.bool g), some (.ref M), some idt, some (.str nm tn)]) ∈ rest ∧ (M, tupOf [.ref y]) ∈ rest ∧ RefOk rest X k o y
  | .choice o p => ∃ M idt nm tn y z, nm.length ≤ 1 ∧ (X k, exprO 451 (D k) #[some (.ref M), some idt, some (.str nm tn)]) ∈ rest ∧ (M, tupOf [.ref y, .ref z]) ∈ rest ∧ RefOk rest X k o y ∧ RefOk rest X k p z
  | .chain o p => ∃ M idt nm tn y z, nm.length ≤ 1 ∧ (X k, exprO 425 (D k) #[some (.ref M), some idt, some (.str nm tn)]) ∈ rest ∧ (M, tupOf [.ref y, .ref z]) ∈ rest ∧ RefOk rest X k o y ∧ RefOk rest X k p z
structure GObj (rest : Led1) (n : Nat) (E : Nat → Ent) (T X D : Nat → Addr) : Prop where
  ent : ∀ k, 3 ≤ k → k < n → (E k).Is rest (T k)
  raw : ∀ k, 3 ≤ k → k < n → Raw rest X D k (E k)
  dict : ∀ k, 3 ≤ k → k < n → (D k, dictOf [] 0) ∈ rest
  lt : ∀ k, 3 ≤ k → k < n → @LT.lt Nat _ (D k) (X k)
  mono : ∀ j k, 3 ≤ j → j < k → k < n → @LT.lt Nat _ (X j) (D k)
section
variable {rest rest2 : Led1} {n : Nat} {E : Nat → Ent} {T X X2 D D2 : Nat → Addr}
theorem RefOk.mono {k o : Nat} {y : Addr} (h : RefOk rest X k o y) (s : ∀ q ∈ rest, q ∈ rest2) (e : ∀ j, j < k → X2 j = X j) : RefOk rest2 X2 k o y := by
  rcases h with ⟨h, d, tk, h1, h2⟩ | ⟨h1, h2, h3⟩
  · exact .inl ⟨h, d, tk, s _ h1, s _ h2⟩
  · exact .inr ⟨h1, h2, by rw [e o h2]; exact h3⟩
theorem Raw.mono {k : Nat} {e : Ent} (h : Raw rest X D k e) (s : ∀ q ∈ rest, q ∈ rest2) (eX : ∀ j, j ≤ k → X2 j = X j) (eD : D2 k = D k) : Raw rest2 X2 D2 k e := by
  have e' : ∀ j, j < k → X2 j = X j := fun j hj => eX j (Nat.le_of_lt hj)
  cases e with
  | rule m => exact h
  | word x => obtain ⟨a, t, i, nm, tn, b, c⟩ := h; exact ⟨a, t, i, nm, tn, b, by rw [eX k (Nat.le_refl _), eD]; exact s _ c⟩
  | many o l m => obtain ⟨a, M, i, nm, tn, mx, tl, y, b, c, d, f, g⟩ := h; exact ⟨a, M, i, nm, tn, mx, tl, y, b, by rw [eX k (Nat.le_refl _), eD]; exact s _ c, s _ d, f, g.mono s e'⟩
  | look o g => obtain ⟨M, i, nm, tn, y, b, c, d, g⟩ := h; exact ⟨M, i, nm, tn, y, b, by rw [eX k (Nat.le_refl _), eD]; exact s _ c, s _ d, g.mono s e'⟩
  | choice o p => obtain ⟨M, i, nm, tn, y, z, b, c, d, f, g⟩ := h; exact ⟨M, i, nm, tn, y, z, b, by rw [eX k (Nat.le_refl _), eD]; exact s _ c, s _ d, f.mono s e', g.mono s e'⟩
  | chain o p => obtain ⟨M, i, nm, tn, y, z, b, c, d, f, g⟩ := h; exact ⟨M, i, nm, tn, y, z, b, by rw [eX k (Nat.le_refl _), eD]; exact s _ c, s _ d, f.mono s e', g.mono s e'⟩
theorem Raw.at {k : Nat} {e : Ent} (h : Raw rest X D k e) : ∃ o, (X k, o) ∈ rest := by
  cases e with
  | rule m => exact h.elim
  | word x => obtain ⟨a, t, i, nm, tn, b, c⟩ := h; exact ⟨_, c⟩
  | many o l m => obtain ⟨a, M, i, nm, tn, mx, tl, y, b, c, d, f, g⟩ := h; exact ⟨_, c⟩
  | look o g => obtain ⟨M, i, nm, tn, y, b, c, d, g⟩ := h; exact ⟨_, c⟩
  | choice o p => obtain ⟨M, i, nm, tn, y, z, b, c, d, f, g⟩ := h; exact ⟨_, c⟩
  | chain o p => obtain ⟨M, i, nm, tn, y, z, b, c, d, f, g⟩ := h; exact ⟨_, c⟩
theorem GObj.sup (g : GObj rest n E T X D) (s : ∀ q ∈ rest, q ∈ rest2) : GObj rest2 n E T X D :=
  ⟨fun k a b => (g.ent k a b).mono fun q hq _ => s q hq, fun k a b => (g.raw k a b).mono s (fun _ _ => rfl) rfl, fun k a b => s _ (g.dict k a b), g.lt, g.mono⟩
abbrev updF {α : Type} (f : Nat → α) (n : Nat) (v : α) : Nat → α := fun k => if k = n then v else f k
/-- one more piece -/
theorem GObj.push (g : GObj rest n E T X D) (s : ∀ q ∈ rest, q ∈ rest2) {e : Ent} {T0 X0 D0 : Addr} (hT : e.Is rest2 T0) (hR : Raw rest2 (updF X n X0) (updF D n D0) n e) (hD : (D0, dictOf [] 0) ∈ rest2) (hlt : @LT.lt Nat _ D0 X0) (hf : ∀ q ∈ rest, @LT.lt Nat _ q.1 D0) :
    GObj rest2 (n + 1) (updF E n e) (updF T n T0) (updF X n X0) (updF D n D0) := by
  have un : ∀ {α : Type} (f : Nat → α) (v : α) (k : Nat), k ≠ n → updF f n v k = f k := fun f v k h => if_neg h
  have ue : ∀ {α : Type} (f : Nat → α) (v : α), updF f n v n = v := fun f v => if_pos rfl
  refine ⟨fun k a b => ?_, fun k a b => ?_, fun k a b => ?_, fun k a b => ?_, fun j k a b c => ?_⟩
  · by_cases h : k = n
    · subst h; rw [ue, ue]; exact hT
    · rw [un _ _ _ h, un _ _ _ h]; exact (g.ent k a (by omega)).mono fun q hq _ => s q hq
  · by_cases h : k = n
    · subst h; rw [ue]; exact hR
    · rw [un _ _ _ h]; exact (g.raw k a (by omega)).mono s (fun j hj => un _ _ _ (by omega)) (un _ _ _ h)
  · by_cases h : k = n
    · subst h; rw [ue]; exact hD
    · rw [un _ _ _ h]; exact s _ (g.dict k a (by omega))
  · by_cases h : k = n
    · subst h; rw [ue, ue]; exact hlt
    · rw [un _ _ _ h, un _ _ _ h]; exact g.lt k a (by omega)
  · rw [un _ _ j (by omega)]
    by_cases h : k = n
    · subst h; rw [ue]
      obtain ⟨o, ho⟩ := (g.raw j a b).at
      exact hf _ ho
    · rw [un _ _ _ h]; exact g.mono j k a b (by omega)
end
/-- what is apart in a piece of two -/
def Sep (lo : Nat → Nat) : Ent → Prop
  | .choice o p => 3 ≤ o → 3 ≤ p → o < lo p
  | .chain o p => 3 ≤ o → 3 ≤ p → o < lo p
  | _ => True
/-- the pieces made by one growth: each with its own, from `lo` on -/
def Tree (E : Nat → Ent) (lo : Nat → Nat) (a b : Nat) : Prop := ∀ k, a ≤ k → k < b → a ≤ lo k ∧ lo k ≤ k ∧ (∀ c ∈ (E k).kids, c < 3 ∨ (lo k ≤ lo c ∧ a ≤ c ∧ c < k)) ∧ Sep lo (E k)
theorem Sep.congr {lo lo' : Nat → Nat} {e : Ent} (h : Sep lo e) (c : ∀ k ∈ e.kids, 3 ≤ k → lo' k = lo k) : Sep lo' e := by
  cases e with
  | choice o p => exact fun h1 h2 => by rw [c p (.tail _ (.head _)) h2]; exact h h1 h2
  | chain o p => exact fun h1 h2 => by rw [c p (.tail _ (.head _)) h2]; exact h h1 h2
  | _ => trivial
structure GRes (rest rest2 : Led1) (E E2 : Nat → Ent) (T T2 X X2 D D2 : Nat → Addr) (pv pv2 : List Value) (s key : Nat) (y : Addr) : Prop where
  len : pv2.length ≤ pv.length + s ∧ pv.length ≤ pv2.length
  old : ∀ k, k < pv.length → E2 k = E k ∧ T2 k = T k ∧ X2 k = X k ∧ D2 k = D k
  pat0 : ∀ k, k < pv.length → pv2[k]? = pv[k]?
  pat : ∀ k, pv.length ≤ k → k < pv2.length → pv2[k]? = some (.ref (T2 k))
  obj : GObj rest2 pv2.length E2 T2 X2 D2
  sub : ∀ q ∈ rest, q ∈ rest2
  tree : ∃ lo, Tree E2 lo pv.length pv2.length
  key : (key < 3 ∧ ∃ d tk, (y, lazyObj d (nameOf key) tk) ∈ rest2 ∧ (d, dictOf [] 0) ∈ rest2) ∨ (pv.length ≤ key ∧ key + 1 = pv2.length ∧ y = X2 key)
section
variable {rest rest1 rest2 : Led1} {E E1 : Nat → Ent} {T T1 X X1 D D1 : Nat → Addr} {pv pv1 : List Value} {s s1 key key1 : Nat} {y : Addr}
/-- the result of a child as a reference of its parent -/
theorem GRes.ref (g : GRes rest rest1 E E1 T T1 X X1 D D1 pv pv1 s key y) (h3 : 3 ≤ pv.length) (sub : ∀ q ∈ rest1, q ∈ rest2) {k : Nat} (hk : pv1.length ≤ k) {X2 : Nat → Addr} (e : ∀ j, j < pv1.length → X2 j = X1 j) : RefOk rest2 X2 k key y := by
  rcases g.key with ⟨h, d, tk, h1, h2⟩ | ⟨h1, h2, h3⟩
  · exact .inl ⟨h, d, tk, sub _ h1, sub _ h2⟩
  · exact .inr ⟨by omega, by omega, by rw [e key (by omega)]; exact h3⟩
theorem GRes.lo (g : GRes rest rest1 E E1 T T1 X X1 D D1 pv pv1 s key y) : key < 3 ∨ (pv.length ≤ key ∧ key < pv1.length) := by
  rcases g.key with ⟨h, _⟩ | ⟨h, h2, _⟩
  · exact .inl h
  · exact .inr ⟨h, by omega⟩
/-- the parent's own piece behind what its children left -/
theorem GRes.push (h3 : 3 ≤ pv.length) (l : pv1.length ≤ pv.length + s1 ∧ pv.length ≤ pv1.length) (old : ∀ k, k < pv.length → E1 k = E k ∧ T1 k = T k ∧ X1 k = X k ∧ D1 k = D k) (pat0 : ∀ k, k < pv.length → pv1[k]? = pv[k]?) (pat : ∀ k, pv.length ≤ k → k < pv1.length → pv1[k]? = some (.ref (T1 k)))
    (obj : GObj rest1 pv1.length E1 T1 X1 D1) (sub0 : ∀ q ∈ rest, q ∈ rest1) {lo : Nat → Nat} (tree : Tree E1 lo pv.length pv1.length) (sub : ∀ q ∈ rest1, q ∈ rest2) {e : Ent} {T0 X0 D0 : Addr} (hT : e.Is rest2 T0) (hR : Raw rest2 (updF X1 pv1.length X0) (updF D1 pv1.length D0) pv1.length e) (hD : (D0, dictOf [] 0) ∈ rest2)
    (hlt : @LT.lt Nat _ D0 X0) (hf : ∀ q ∈ rest1, @LT.lt Nat _ q.1 D0) (hk : ∀ c ∈ e.kids, c < 3 ∨ (pv.length ≤ c ∧ c < pv1.length)) (hsep : Sep lo e) (hs : s1 + 1 ≤ s) :
    GRes rest rest2 E (updF E1 pv1.length e) T (updF T1 pv1.length T0) X (updF X1 pv1.length X0) D (updF D1 pv1.length D0) pv (pv1 ++ [.ref T0]) s pv1.length X0 := by
  have un : ∀ {α : Type} (f : Nat → α) (v : α) (k : Nat), k ≠ pv1.length → updF f pv1.length v k = f k := fun f v k h => if_neg h
  have ue : ∀ {α : Type} (f : Nat → α) (v : α), updF f pv1.length v pv1.length = v := fun f v => if_pos rfl
  have hl : (pv1 ++ [Value.ref T0]).length = pv1.length + 1 := by simp
  refine ⟨by omega, fun k hk => ?_, fun k hk => ?_, fun k h1 h2 => ?_, ?_, fun q hq => sub _ (sub0 _ hq), ⟨updF lo pv1.length pv.length, fun k h1 h2 => ?_⟩, .inr ⟨l.2, by omega, (ue _ _).symm⟩⟩
  · have := old k hk
    rw [un _ _ _ (by omega), un _ _ _ (by omega), un _ _ _ (by omega), un _ _ _ (by omega)]; exact this
  · rw [List.getElem?_append_left (by omega)]; exact pat0 k hk
  · by_cases h : k = pv1.length
    · subst h; rw [ue]; simp
    · rw [un _ _ _ h, List.getElem?_append_left (by omega)]; exact pat k h1 (by omega)
  · rw [hl]; exact obj.push sub hT hR hD hlt hf
  · by_cases h : k = pv1.length
    · subst h
      rw [ue, ue]
      refine ⟨Nat.le_refl _, l.2, fun c hc => ?_, hsep.congr fun c hc h3 => ?_⟩
      · rcases hk c hc with h | ⟨h, h'⟩
        · exact .inl h
        · refine .inr ⟨?_, h, h'⟩
          rw [un _ _ _ (by omega)]; exact (tree c h h').1
      · rcases hk c hc with h | ⟨h, h'⟩
        · omega
        · rw [un _ _ _ (by omega)]
    · obtain ⟨t1, t2, t3, t4⟩ := tree k h1 (by omega)
      rw [un _ _ _ h, un _ _ _ h]
      refine ⟨t1, t2, fun c hc => ?_, t4.congr fun c hc h3 => ?_⟩
      · rcases t3 c hc with h | ⟨h, h', h''⟩
        · exact .inl h
        · refine .inr ⟨?_, h', h''⟩
          rw [un _ _ _ (by omega)]; exact h
      · rcases t3 c hc with h | ⟨h, h', h''⟩
        · omega
        · rw [un _ _ _ (by omega)]
end
section
variable {rest rest1 rest2 rest3 : Led1} {E E1 E2 : Nat → Ent} {T T1 T2 X X1 X2 D D1 D2 : Nat → Addr} {pv pv1 pv2 : List Value} {s s1 s2 key key2 : Nat} {y y2 : Addr}
theorem GRes.push1 (g : GRes rest rest1 E E1 T T1 X X1 D D1 pv pv1 s1 key y) (h3 : 3 ≤ pv.length) (sub : ∀ q ∈ rest1, q ∈ rest2) {e : Ent} {T0 X0 D0 : Addr} (hT : e.Is rest2 T0) (hR : Raw rest2 (updF X1 pv1.length X0) (updF D1 pv1.length D0) pv1.length e) (hD : (D0, dictOf [] 0) ∈ rest2)
    (hlt : @LT.lt Nat _ D0 X0) (hf : ∀ q ∈ rest1, @LT.lt Nat _ q.1 D0) (he : (∃ l m, e = .many key l m) ∨ ∃ b, e = .look key b) (hs : s1 + 1 ≤ s) :
    GRes rest rest2 E (updF E1 pv1.length e) T (updF T1 pv1.length T0) X (updF X1 pv1.length X0) D (updF D1 pv1.length D0) pv (pv1 ++ [.ref T0]) s pv1.length X0 := by
  obtain ⟨lo, tr⟩ := g.tree
  refine GRes.push h3 g.len g.old g.pat0 g.pat g.obj g.sub tr sub hT hR hD hlt hf (fun c hc => ?_) ?_ hs
  · have : c = key := by rcases he with ⟨l, m, rfl⟩ | ⟨b, rfl⟩ <;> exact List.mem_singleton.mp hc
    rw [this]; exact g.lo
  · rcases he with ⟨l, m, rfl⟩ | ⟨b, rfl⟩ <;> trivial
theorem GRes.push2 (g : GRes rest rest1 E E1 T T1 X X1 D D1 pv pv1 s1 key y) (g' : GRes rest1 rest2 E1 E2 T1 T2 X1 X2 D1 D2 pv1 pv2 s2 key2 y2) (h3 : 3 ≤ pv.length) (sub : ∀ q ∈ rest2, q ∈ rest3) {e : Ent} {T0 X0 D0 : Addr} (hT : e.Is rest3 T0) (hR : Raw rest3 (updF X2 pv2.length X0) (updF D2 pv2.length D0) pv2.length e) (hD : (D0, dictOf [] 0) ∈ rest3)
    (hlt : @LT.lt Nat _ D0 X0) (hf : ∀ q ∈ rest2, @LT.lt Nat _ q.1 D0) (he : e = .choice key key2 ∨ e = .chain key key2) (hs : s1 + s2 + 1 ≤ s) :
    GRes rest rest3 E (updF E2 pv2.length e) T (updF T2 pv2.length T0) X (updF X2 pv2.length X0) D (updF D2 pv2.length D0) pv (pv2 ++ [.ref T0]) s pv2.length X0 := by
  have l1 := g.len
  have l2 := g'.len
  obtain ⟨lo1, tr1⟩ := g.tree
  obtain ⟨lo2, tr2⟩ := g'.tree
  have ek : ∀ c ∈ e.kids, c = key ∨ c = key2 := fun c hc => by
    rcases he with rfl | rfl
    all_goals
      rcases List.mem_cons.mp hc with h | h
      · exact .inl h
      · exact .inr (List.mem_singleton.mp h)
  refine GRes.push (s1 := s1 + s2) (lo := fun k => if k < pv1.length then lo1 k else lo2 k) h3 ⟨by omega, by omega⟩ (fun k hk => ?_) (fun k hk => ?_) (fun k h1 h2 => ?_) g'.obj (fun q hq => g'.sub _ (g.sub _ hq)) (fun k h1 h2 => ?_) sub hT hR hD hlt hf (fun c hc => ?_) ?_ hs
  · obtain ⟨a, b, c, d⟩ := g.old k hk
    obtain ⟨a', b', c', d'⟩ := g'.old k (by omega)
    exact ⟨a'.trans a, b'.trans b, c'.trans c, d'.trans d⟩
  · rw [g'.pat0 k (by omega)]; exact g.pat0 k hk
  · by_cases h : k < pv1.length
    · rw [g'.pat0 k h, (g'.old k h).2.1]; exact g.pat k h1 h
    · exact g'.pat k (by omega) h2
  · by_cases h : k < pv1.length
    · obtain ⟨t1, t2, t3, t4⟩ := tr1 k h1 h
      dsimp only
      rw [(g'.old k h).1, if_pos h]
      refine ⟨t1, t2, fun c hc => ?_, t4.congr fun c hc h3 => ?_⟩
      · rcases t3 c hc with h' | ⟨h', h'', h3⟩
        · exact .inl h'
        · refine .inr ⟨?_, h'', h3⟩
          rw [if_pos (by omega)]; exact h'
      · rcases t3 c hc with h' | ⟨h', h'', h3⟩
        · omega
        · exact if_pos (by omega)
    · obtain ⟨t1, t2, t3, t4⟩ := tr2 k (by omega) h2
      dsimp only
      rw [if_neg h]
      refine ⟨by omega, t2, fun c hc => ?_, t4.congr fun c hc h3 => ?_⟩
      · rcases t3 c hc with h' | ⟨h', h'', h3⟩
        · exact .inl h'
        · refine .inr ⟨?_, by omega, h3⟩
          rw [if_neg (by omega)]; exact h'
      · rcases t3 c hc with h' | ⟨h', h'', h3⟩
        · omega
        · exact if_neg (by omega)
  · rcases ek c hc with rfl | rfl
    · rcases g.lo with h | h
      · exact .inl h
      · exact .inr ⟨h.1, by omega⟩
    · rcases g'.lo with h | h
      · exact .inl h
      · exact .inr ⟨by omega, h.2⟩
  · have : 3 ≤ key → 3 ≤ key2 → key < (if key2 < pv1.length then lo1 key2 else lo2 key2) := fun a b => by
      rcases g.lo with h | h
      · omega
      rcases g'.lo with h' | h'
      · omega
      rw [if_neg (by omega)]
      have := (tr2 key2 h'.1 h'.2).1
      omega
    rcases he with rfl | rfl <;> exact this
end
section
variable {rest : Led1} {X D : Nat → Addr} {n o p : Nat} {a d M y z : Addr} {idt : Value} {nm : Str} {tn : Tok}
theorem upd_at {α : Type} (f : Nat → α) (n : Nat) (v : α) : updF f n v n = v := if_pos rfl
theorem raw_many {l m : Int} {mx : Value} {tl : Tok} (hl : l ≤ 1) (hn : nm.length ≤ 1) (hX : (a, exprO 528 d #[some mx, some (.int l tl), some (.ref M), some idt, some (.str nm tn)]) ∈ rest) (hM : (M, tupOf [.ref y]) ∈ rest) (hm : MaxIs mx m) (hr : RefOk rest (updF X n a) n o y) : Raw rest (updF X n a) (updF D n d) n (.many o l m) :=
  ⟨hl, M, idt, nm, tn, mx, tl, y, hn, by rw [upd_at, upd_at]; exact hX, hM, hm, hr⟩
theorem raw_look {g : Bool} (hn : nm.length ≤ 1) (hX : (a, exprO 489 d #[some (.bool g), some (.ref M), some idt, some (.str nm tn)]) ∈ rest) (hM : (M, tupOf [.ref y]) ∈ rest) (hr : RefOk rest (updF X n a) n o y) : Raw rest (updF X n a) (updF D n d) n (.look o g) :=
  ⟨M, idt, nm, tn, y, hn, by rw [upd_at, upd_at]; exact hX, hM, hr⟩
theorem raw_choice (hn : nm.length ≤ 1) (hX : (a, exprO 451 d #[some (.ref M), some idt, some (.str nm tn)]) ∈ rest) (hM : (M, tupOf [.ref y, .ref z]) ∈ rest) (hr : RefOk rest (updF X n a) n o y) (hr2 : RefOk rest (updF X n a) n p z) : Raw rest (updF X n a) (updF D n d) n (.choice o p) :=
  ⟨M, idt, nm, tn, y, z, hn, by rw [upd_at, upd_at]; exact hX, hM, hr, hr2⟩
theorem raw_chain (hn : nm.length ≤ 1) (hX : (a, exprO 425 d #[some (.ref M), some idt, some (.str nm tn)]) ∈ rest) (hM : (M, tupOf [.ref y, .ref z]) ∈ rest) (hr : RefOk rest (updF X n a) n o y) (hr2 : RefOk rest (updF X n a) n p z) : Raw rest (updF X n a) (updF D n d) n (.chain o p) :=
  ⟨M, idt, nm, tn, y, z, hn, by rw [upd_at, upd_at]; exact hX, hM, hr, hr2⟩
theorem upd_ne {α : Type} {f : Nat → α} {n : Nat} {v : α} : ∀ j, j < n → updF f n v j = f j := fun _ h => if_neg (Nat.ne_of_lt h)
end
def TwoE : Ent → Prop
  | .choice _ _ => True
  | .chain _ _ => True
  | _ => False
abbrev GRet (st sl pl : Addr) (vs : List Value) (n' : Nat) (i c : Int) (rest : Led1) (E : Nat → Ent) (T X D : Nat → Addr) (pv : List Value) (sz : Nat) (dd : Int) (r : Value) (news' : Led1) : Prop :=
  ∃ i' tki' n2 np2 pv2 rest2 E2 T2 X2 D2 tup key tk y, news' = (st, listOf #[.ref sl, .int i' tki'] n2) :: (sl, listOf vs.toArray n') :: (pl, listOf pv2.toArray np2) :: rest2 ∧ r = .ref tup ∧ (tup, tupOf [.int (key : Nat) tk, .ref y]) ∈ rest2 ∧ i ≤ i' ∧ i' ≤ i + c ∧
      (∀ q ∈ rest2, q.1 ≠ st) ∧ (∀ q ∈ rest2, q.1 ≠ sl) ∧ (∀ q ∈ rest2, q.1 ≠ pl) ∧ GRes rest rest2 E E2 T T2 X X2 D D2 pv pv2 sz key y ∧ (dd = 2 → pv.length ≤ key ∧ TwoE (E2 key))
section
variable {rest rest1 os Lg : Led1} {E E2 : Nat → Ent} {T T2 X X2 D D2 : Nat → Addr} {pv pv1 vs : List Value} {sz n2 n' np2 key : Nat} {st sl pl tup a T9 L : Addr} {i i' c dd : Int} {ti tk : Tok} {G h : Heap} {m : Str → Option Value} {s : Shared} {tks : Nat}
/-- the end of a growth: a piece of its own behind those of its children -/
theorem grown_end (F : Fr G L h m) (N : News G L h Lg) (hst : (st, listOf #[.ref sl, .int i' ti] n2) ∈ Lg) (hsl : (sl, listOf vs.toArray n') ∈ Lg) (hpl : (pl, listOf (pv1 ++ [Value.ref T9]).toArray np2) ∈ Lg) (htup : (tup, tupOf [.int (key : Nat) tk, .ref a]) ∈ Lg) (hos : ∀ q ∈ os, q ∈ Lg) (hr : ∀ q ∈ rest1, q ∈ Lg)
    (z1 : @LT.lt Nat _ st T9) (z2 : @LT.lt Nat _ sl T9) (z3 : @LT.lt Nat _ pl T9) (zt : @LE.le Nat _ T9 tup) (zo : ∀ q ∈ os, @LE.le Nat _ T9 q.1) (c1 : ∀ q ∈ rest1, q.1 ≠ st) (c2 : ∀ q ∈ rest1, q.1 ≠ sl) (c3 : ∀ q ∈ rest1, q.1 ≠ pl) (hi1 : i ≤ i') (hi2 : i' ≤ i + c)
    (g : GRes rest ((tup, tupOf [.int (key : Nat) tk, .ref a]) :: (os ++ rest1)) E E2 T T2 X X2 D D2 pv (pv1 ++ [.ref T9]) sz key a) (hdd : dd = 2 → pv.length ≤ key ∧ TwoE (E2 key)) :
    Back G s (GRet st sl pl vs n' i c rest E T X D pv sz dd) (.ref tup) { s with heap := h, toks := tks } := by
  have ne : ∀ {z : Addr}, @LT.lt Nat _ z T9 → (∀ q ∈ rest1, q.1 ≠ z) → ∀ q ∈ (tup, tupOf [.int (key : Nat) tk, .ref a]) :: (os ++ rest1), q.1 ≠ z := fun {z} hz hc q hq => by
    rcases List.mem_cons.mp hq with rfl | hq
    · exact Nat.ne_of_gt (Nat.lt_of_lt_of_le hz zt)
    rcases List.mem_append.mp hq with hq | hq
    · exact Nat.ne_of_gt (Nat.lt_of_lt_of_le hz (zo q hq))
    · exact hc q hq
  refine back_of F (news' := (st, listOf #[.ref sl, .int i' ti] n2) :: (sl, listOf vs.toArray n') :: (pl, listOf (pv1 ++ [Value.ref T9]).toArray np2) :: (tup, tupOf [.int (key : Nat) tk, .ref a]) :: (os ++ rest1)) (fun q hq => N q ?_)
    ⟨i', ti, n2, np2, _, _, E2, T2, X2, D2, tup, key, tk, a, rfl, rfl, .head _, hi1, hi2, ne z1 c1, ne z2 c2, ne z3 c3, g, hdd⟩
  rcases List.mem_cons.mp hq with rfl | hq
  · exact hst
  rcases List.mem_cons.mp hq with rfl | hq
  · exact hsl
  rcases List.mem_cons.mp hq with rfl | hq
  · exact hpl
  rcases List.mem_cons.mp hq with rfl | hq
  · exact htup
  rcases List.mem_append.mp hq with hq | hq
  · exact hos q hq
  · exact hr q hq
end
end VJ
end

section
open PySem PySem.W PyProof.Rows PySem.Calls PySem.Spec PyProof.V
namespace VJ
set_option maxRecDepth 100000
section
variable {prog : Program} {w : World} {A : Around} {E : Value → Shared → Prop} {s : Shared} {env : Env} {h₀ : Heap} {x : Str} {body : List Stmt} {Q : Flow → Shared → Prop}
/-- the end of a turn -/
def TurnBack (h₀ : Heap) (L : Addr) (s₁ : Shared) (own : List (Addr × Obj)) (J : (Str → Option Value) → List (Addr × Obj) → Prop) (Q : Flow → Shared → Prop) (f : Flow) (s₂ : Shared) : Prop :=
  match f with
  | .ret v => Q (.ret v) s₂
  | .brk => Q .next s₂
  | _ => ∃ h' tk m' news', s₂ = { s₁ with heap := h', toks := tk } ∧ Fr h₀ L h' m' ∧ News h₀ L h' (own ++ news') ∧ (∀ p ∈ news', ∀ q ∈ own, p.1 ≠ q.1) ∧ J m' news'
theorem range_turns {r : Addr} {a₀ b₀ : Int} {t₀ u₀ v₀ : Tok} {n : Nat} {m₀ : Str → Option Value} {news : List (Addr × Obj)} (J : Nat → (Str → Option Value) → List (Addr × Obj) → Prop)
    (hh : A.handled = none) (hr : IsRange s.heap r a₀ b₀ 1 t₀ u₀ v₀) (hsmall : Builtin.Range.small a₀ b₀ 1 = true) (hn : Builtin.Range.rangeSize a₀ b₀ 1 = (n : Int)) (F : Fr h₀ env.locals s.heap m₀) (N : News h₀ env.locals s.heap news) (h0 : J 0 m₀ news)
    (turn : ∀ i t m₁ nx h tk (I : Addr) o, i < n → J i m₁ nx → (∀ p ∈ nx, p.1 ≠ I) → Fr h₀ env.locals h (fun y => if y = x then some (.int (a₀ + (i : Int)) t) else m₁ y) → News h₀ env.locals h ([(I, o)] ++ nx) →
      wpAny (model prog w) A (execs body env) (TurnBack h₀ env.locals { s with heap := h, toks := tk } [(I, o)] (J (i + 1)) Q) E { s with heap := h, toks := tk })
    (done : ∀ m₁ nx h tk, J n m₁ nx → Fr h₀ env.locals h m₁ → News h₀ env.locals h nx → Q .next { s with heap := h, toks := tk }) :
    wpAny (model prog w) A (pyIter (.ref r)) (fun it s₂ => LoopAtV prog w A h₀ env x body Q E it s₂) E s := by
  refine wpAny_pyIter_range hr hsmall ?_
  have W : Walks prog w A s.heap.objs.size [s.heap.objs.size] [s.heap.objs.size] n (fun i v => i < n ∧ ∃ t, v = .int (a₀ + i * 1) t)
      (fun i h => IsRangeIter h s.heap.objs.size (a₀ + (i : Nat) * 1) ((n : Int) - (i : Nat)) 1) := (Walks.range hh _ a₀ 1 n).bound
  refine ⟨_, _, _, n, _, _, m₀, news, J, rfl, W, ?_, ?_, ?_, (by show IsRangeIter _ _ _ _ _; rw [hn]; simpa using Heap.get?_push_size _ rfl), F.push _, (fun p hp => ⟨Heap.get?_push_of_some _ (N p hp).1, (N p hp).2⟩), h0, ?_, ?_⟩
  · intro hm
    exact absurd F.ns.lt ((List.mem_singleton.mp hm) ▸ Nat.lt_irrefl _)
  · intro b hb
    rw [List.mem_singleton.mp hb]
    exact next_is_new F
  · intro p hp hI
    exact absurd (Heap.lt_size (N p hp).1) ((List.mem_singleton.mp hI) ▸ Nat.lt_irrefl _)
  · rintro i v m₁ news₁ s₁ own ⟨hh', tk', rfl⟩ hin ⟨_, t, rfl⟩ hJ hoff hown hget hall hst F₁ N₁
    have hst' : IsRangeIter hh' s.heap.objs.size (a₀ + ((i + 1 : Nat) : Int) * 1) ((n : Int) - ((i + 1 : Nat) : Int)) 1 := hst
    obtain ⟨ro, hro⟩ : ∃ o, hh'.get? s.heap.objs.size = some o := ⟨_, hst'⟩
    have hI : (s.heap.objs.size, ro) ∈ own := hall _ (List.mem_singleton.mpr rfl) (next_is_new F) _ hro
    have one : ∀ q ∈ own, q = (s.heap.objs.size, ro) := fun q hq => by
      have h1 := hown q hq
      have h2 : q.1 = s.heap.objs.size := List.mem_singleton.mp h1
      have h3 := hget q hq
      rw [h2] at h3
      exact Prod.ext h2 (Option.some.inj (h3.symm.trans hro))
    have hne : ∀ p ∈ news₁, p.1 ≠ s.heap.objs.size := fun p hp e => hoff p hp (e ▸ List.mem_singleton.mpr rfl)
    have e1 : (a₀ + (i : Int) * 1) = a₀ + (i : Int) := by rw [Int.mul_one]
    rw [e1] at F₁
    refine wpAny_mono (turn i t m₁ news₁ hh' tk' s.heap.objs.size ro hin hJ hne F₁ (fun q hq => ?_)) (fun f s₂ p => ?_) fun _ _ e => e
    · rcases List.mem_append.mp hq with hq | hq
      · rw [List.mem_singleton.mp hq]; exact N₁ _ (List.mem_append_left _ hI)
      · exact N₁ _ (List.mem_append_right _ hq)
    · have fin : ∀ s₃, (∃ h' tk m' news', s₃ = { { { s with heap := hh', toks := tk' } with heap := hh', toks := tk' } with heap := h', toks := tk } ∧ Fr h₀ env.locals h' m' ∧ News h₀ env.locals h' ([(s.heap.objs.size, ro)] ++ news') ∧ (∀ p ∈ news', ∀ q ∈ [(s.heap.objs.size, ro)], p.1 ≠ q.1) ∧ J (i + 1) m' news') →
          LoopStepU h₀ env.locals [s.heap.objs.size] own (J (i + 1)) { s with heap := hh', toks := tk' } .next s₃ := by
        rintro s₃ ⟨h', tk, m', news', e, F', N', ho, r⟩
        refine ⟨rfl, h', tk, m', news', e, F', ?_, ?_, r⟩
        · intro q hq
          rcases List.mem_append.mp hq with hq | hq
          · rw [one q hq]; exact N' _ (List.mem_append_left _ (List.mem_singleton.mpr rfl))
          · exact N' _ (List.mem_append_right _ hq)
        · intro q hq hI
          exact ho q hq _ (List.mem_singleton.mpr rfl) (List.mem_singleton.mp hI)
      cases f with
      | ret v => exact .ret p
      | brk => exact .brk p
      | next => exact .next (fin _ p)
      | cont => exact .cont (fin _ p)
  · intro h' tk m' news' F' N' _ hJ
    exact done m' news' h' tk hJ F' N'
end
section
variable {prog : Program} {w : World} {A : Around} {E : Value → Shared → Prop} {s : Shared} {env : Env} {h₀ : Heap} {target : PySem.Expr} {body orelse : List Stmt} {Q : Flow → Shared → Prop}
/-- a walk over a tuple of the ledger: what each turn must do -/
def TupLoop (prog : Program) (w : World) (A : Around) (E : Value → Shared → Prop) (s₀ : Shared) (env : Env) (h₀ : Heap) (target : PySem.Expr) (body orelse : List Stmt) (ax : Addr) (lo : Obj) (Q : Flow → Shared → Prop) : List Value → (Str → Option Value) → List (Addr × Obj) → Prop
  | [], m, news => ∀ h tk, Fr h₀ env.locals h m → News h₀ env.locals h news → wpAny (model prog w) A (execs orelse env) Q E { s₀ with heap := h, toks := tk }
  | v :: r, m, news => ∀ h tk (I : Addr) (o : Obj), (∀ p ∈ news, p.1 ≠ I) → Fr h₀ env.locals h m → News h₀ env.locals h ([(I, o)] ++ news) →
      wpAny (model prog w) A (assign target env v) (fun _ s₂ => wpAny (model prog w) A (execs body env) (TurnBack h₀ env.locals { s₀ with heap := h, toks := tk } [(I, o)] (fun m' n' => (ax, lo) ∈ n' ∧ TupLoop prog w A E s₀ env h₀ target body orelse ax lo Q r m' n') Q) E s₂) E { s₀ with heap := h, toks := tk }
theorem TupLoop.heap {s₁ : Shared} {hp : Heap} {tp : Nat} {ax : Addr} {lo : Obj} : ∀ {vs : List Value} {m : Str → Option Value} {news : List (Addr × Obj)}, TupLoop prog w A E s₁ env h₀ target body orelse ax lo Q vs m news →
    TupLoop prog w A E { s₁ with heap := hp, toks := tp } env h₀ target body orelse ax lo Q vs m news
  | [], _, _, h => h
  | v :: r, m, news, h => fun h' tk I o a F N => wpAny_mono (h h' tk I o a F N) (fun _ s₂ h₂ => wpAny_mono h₂ (fun f s₃ h₃ => by
      cases f with
      | ret v => exact h₃
      | brk => exact h₃
      | next => obtain ⟨h1, t1, m1, n1, e, F1, N1, o1, a1, T1⟩ := h₃; exact ⟨h1, t1, m1, n1, e, F1, N1, o1, a1, T1.heap⟩
      | cont => obtain ⟨h1, t1, m1, n1, e, F1, N1, o1, a1, T1⟩ := h₃; exact ⟨h1, t1, m1, n1, e, F1, N1, o1, a1, T1.heap⟩) fun _ _ e => e) fun _ _ e => e
theorem tup_loop {ax I : Addr} {lo : Obj} {vs : List Value} {m₀ : Str → Option Value} {news : List (Addr × Obj)} (hh : A.handled = none) (hE : PassesOwn (model prog w) A env E) (hne : ax ≠ I)
    (hst : s.heap.IsTupleIter I ax 0 ∧ s.heap.IsTuple ax vs.toArray) (hI : h₀.get? I = none) (hLI : env.locals ≠ I) (F : Fr h₀ env.locals s.heap m₀) (N : News h₀ env.locals s.heap news) (hnI : ∀ p ∈ news, p.1 ≠ I) (hm : (ax, lo) ∈ news)
    (rest : TupLoop prog w A E s env h₀ target body orelse ax lo Q vs m₀ news) :
    codeAny (model prog w) A (.forLoop target (.ref I) body orelse env) (fun r s' => match r with | .ok f => Q f s' | .error e => cameBackBy (model prog w) A env E e s') s := by
  have W := Walks.tuple (prog := prog) (w := w) (A := A) hh I ax hne vs.toArray
  have old : ∀ b o, h₀.get? b = some o → b ∉ [I] := fun b o e hb => by rw [List.mem_singleton.mp hb, hI] at e; cases e
  refine codeAny_forLoop_any
    (fun k s' => ∃ h' tk m' news' i r, s' = { s with heap := h', toks := tk } ∧ (h'.IsTupleIter I ax i ∧ h'.IsTuple ax vs.toArray) ∧ Fr h₀ env.locals h' m' ∧ News h₀ env.locals h' news' ∧ (∀ p ∈ news', p.1 ≠ I) ∧ (ax, lo) ∈ news' ∧
      vs.drop i = r ∧ i + r.length = vs.length ∧ TupLoop prog w A E s env h₀ target body orelse ax lo Q r m' news' ∧ k = r.length + 1) ?_ (vs.length + 1)
    ⟨s.heap, s.toks, m₀, news, 0, vs, rfl, hst, F, N, hnI, hm, rfl, by omega, rest, rfl⟩
  rintro k s' ⟨h', tk, m', news', i, r, rfl, hst', F', N', hn', hm', hdrop, hlen, hT, rfl⟩
  have next : ∀ h₁ : Heap, (∀ b o, b ∉ [I] → h'.get? b = some o → h₁.get? b = some o) → Fr h₀ env.locals h₁ m' ∧ News h₀ env.locals h₁ news' := fun h₁ hk₁ =>
    ⟨⟨F'.ns.at' fun o e => hk₁ _ o (fun z => hLI (List.mem_singleton.mp z)) e, fun b o e => hk₁ b o (old b o e) (F'.keep b o e), F'.above⟩, fun p hp => ⟨hk₁ _ _ (fun z => hn' p hp (List.mem_singleton.mp z)) (N' p hp).1, (N' p hp).2⟩⟩
  cases r with
  | nil =>
    have hi : i = vs.toArray.size := by simp at hlen ⊢; exact hlen
    subst hi
    refine wpAny_mono (W.done _ (fun r s₁ => r = none ∧ ∃ h₁ tk₁, s₁ = { { s with heap := h', toks := tk } with heap := h₁, toks := tk₁ } ∧ ∀ b o, b ∉ [I] → h'.get? b = some o → h₁.get? b = some o) _ hst' fun h₁ tk₁ hk₁ => ⟨rfl, h₁, tk₁, rfl, hk₁⟩) (fun r s₁ z => ?_) fun _ _ e => e
    obtain ⟨rfl, h₁, tk₁, rfl, hk₁⟩ := z
    obtain ⟨F₁, N₁⟩ := next h₁ hk₁
    exact wpAny_passesOwn hE (hT h₁ tk₁ F₁ N₁)
  | cons v r =>
    have hi : i < vs.toArray.size := by simp at hlen ⊢; omega
    have hv : vs[i]? = some v := by
      have := congrArg List.head? hdrop
      rw [List.head?_drop] at this
      simpa using this
    refine W.item i _ _ _ hi hst' fun u h₁ tk₁ hP hst₁ hk₁ => ?_
    obtain rfl : u = v := by
      have : vs[i]? = some u := by simpa using hP
      rw [hv] at this; exact (Option.some.inj this).symm
    refine letGo_tupleiter hst₁.1 ?_
    obtain ⟨F₁, N₁⟩ := next h₁ hk₁
    obtain ⟨oI, hoI, _⟩ := id hst₁.1
    have N₂ : News h₀ env.locals h₁ ([(I, oI)] ++ news') := fun p hp => by
      rcases List.mem_append.mp hp with hp | hp
      · rw [List.mem_singleton.mp hp]; exact ⟨hoI, fun e => hLI e.symm, hI⟩
      · exact N₁ p hp
    refine wpAny_passesOwn hE (wpAny_mono (hT h₁ tk₁ I oI hn' F₁ N₂) (fun _ s₂ h₂ => wpAny_passesOwn hE (wpAny_mono h₂ (fun f s₃ h₃ => ?_) fun _ _ e => e)) fun _ _ e => e)
    have fin : (∃ h'' tk'' m'' news'', s₃ = { { s with heap := h₁, toks := tk₁ } with heap := h'', toks := tk'' } ∧ Fr h₀ env.locals h'' m'' ∧ News h₀ env.locals h'' ([(I, oI)] ++ news'') ∧ (∀ p ∈ news'', ∀ q ∈ [(I, oI)], p.1 ≠ q.1) ∧ ((ax, lo) ∈ news'' ∧ TupLoop prog w A E s env h₀ target body orelse ax lo Q r m'' news'')) →
        ∃ k', k' < (u :: r).length + 1 ∧ ∃ h' tk m' news' i r', s₃ = { s with heap := h', toks := tk } ∧ (h'.IsTupleIter I ax i ∧ h'.IsTuple ax vs.toArray) ∧ Fr h₀ env.locals h' m' ∧ News h₀ env.locals h' news' ∧ (∀ p ∈ news', p.1 ≠ I) ∧ (ax, lo) ∈ news' ∧
          vs.drop i = r' ∧ i + r'.length = vs.length ∧ TupLoop prog w A E s env h₀ target body orelse ax lo Q r' m' news' ∧ k' = r'.length + 1 := by
      rintro ⟨h₃', tk₃, m₃, news₃, rfl, F₃, N₃, ho₃, hm₃, hT₃⟩
      refine ⟨r.length + 1, by simp, h₃', tk₃, m₃, news₃, i + 1, r, rfl, ?_, F₃, fun p hp => N₃ p (List.mem_append_right _ hp), fun p hp => ho₃ p hp _ (List.mem_singleton.mpr rfl), hm₃, ?_, ?_, hT₃, rfl⟩
      · refine ⟨hst₁.1.at fun o e => ?_, ?_⟩
        · rw [hoI] at e; cases e; exact (N₃ _ (List.mem_append_left _ (List.mem_singleton.mpr rfl))).1
        · refine hst₁.2.at fun o e => ?_
          have h1 := (N₁ _ hm').1
          rw [h1] at e; cases e
          exact (N₃ _ (List.mem_append_right _ hm₃)).1
      · rw [← List.drop_drop, hdrop]; rfl
      · simp at hlen; omega
    cases f with
    | ret v => exact h₃
    | brk => exact h₃
    | next => exact fin h₃
    | cont => exact fin h₃
theorem tup_inv {s₁ : Shared} {ax : Addr} {lo : Obj} (I : (Str → Option Value) → List (Addr × Obj) → Prop) : ∀ {vs : List Value}
    (_ : ∀ m news, I m news → TupLoop prog w A E s₁ env h₀ target body orelse ax lo Q [] m news)
    (_ : ∀ v ∈ vs, ∀ m news, I m news → ∀ h tk (J : Addr) (o : Obj), (∀ p ∈ news, p.1 ≠ J) → Fr h₀ env.locals h m → News h₀ env.locals h ([(J, o)] ++ news) →
      wpAny (model prog w) A (assign target env v) (fun _ s₂ => wpAny (model prog w) A (execs body env) (TurnBack h₀ env.locals { s₁ with heap := h, toks := tk } [(J, o)] (fun m' n' => (ax, lo) ∈ n' ∧ I m' n') Q) E s₂) E { s₁ with heap := h, toks := tk })
    (m : Str → Option Value) (news : List (Addr × Obj)), I m news → TupLoop prog w A E s₁ env h₀ target body orelse ax lo Q vs m news
  | [], base, _, m, news, hI => base m news hI
  | v :: r, base, step, m, news, hI => fun h tk J o hJ F N => wpAny_mono (step v (.head _) m news hI h tk J o hJ F N) (fun _ s₂ h₂ => wpAny_mono h₂ (fun f s₃ h₃ => by
      have ih := tup_inv I (vs := r) base (fun v hv => step v (.tail _ hv))
      cases f with
      | ret v => exact h₃
      | brk => exact h₃
      | next => obtain ⟨h1, t1, m1, n1, e, F1, N1, o1, a1, T1⟩ := h₃; exact ⟨h1, t1, m1, n1, e, F1, N1, o1, a1, ih m1 n1 T1⟩
      | cont => obtain ⟨h1, t1, m1, n1, e, F1, N1, o1, a1, T1⟩ := h₃; exact ⟨h1, t1, m1, n1, e, F1, N1, o1, a1, ih m1 n1 T1⟩) fun _ _ e => e) fun _ _ e => e
/-- what an iterable must be for a walk over it -/
def TupAt (prog : Program) (w : World) (A : Around) (E : Value → Shared → Prop) (env : Env) (h₀ : Heap) (target : PySem.Expr) (body orelse : List Stmt) (Q : Flow → Shared → Prop) (xv : Value) (s₁ : Shared) : Prop :=
  ∃ (ax : Addr) (lo : Obj) (vs : List Value) (n : Nat) (m : Str → Option Value) (news : List (Addr × Obj)), xv = .ref ax ∧ lo.cls = .type "tuple" ∧ lo.data = .seq vs.toArray n ∧ (ax, lo) ∈ news ∧ Fr h₀ env.locals s₁.heap m ∧ News h₀ env.locals s₁.heap news ∧
    TupLoop prog w A E s₁ env h₀ target body orelse ax lo Q vs m news
theorem for_tup {iter : PySem.Expr} {pos : Pos} {m : Str → Option Value} (_F : Fr h₀ env.locals s.heap m) (hh : A.handled = none)
    (h : wpAny (model prog w) A (eval iter env) (fun xv s₁ => TupAt prog w A E env h₀ target body orelse Q xv s₁) E s)
    (hs : ∀ x, foldedSetIterable iter env x = pure x := by intro _; rfl)
    (hE : PassesOwn (model prog w) A env E := by passes_own) :
    wpAny (model prog w) A (exec (.For target iter body orelse pos) env) Q E s := by
  refine wpAny_For (wpAny_mono h (fun xv s₁ h₁ => ?_) fun _ _ e => e) hs
  obtain ⟨ax, lo, vs, n, m, news, rfl, hc, hd, hm, F, N, rest⟩ := h₁
  have hax := N _ hm
  have hl : s₁.heap.IsTuple ax vs.toArray := ⟨lo, hax.1, hc, n, hd⟩
  have hlt : ax < s₁.heap.objs.size := Heap.lt_size hax.1
  refine wpAny_pyIter_tuple hl ?_
  refine tup_loop (I := s₁.heap.objs.size) hh hE (Nat.ne_of_lt hlt) ⟨⟨_, Heap.get?_push_size _ rfl, rfl, rfl⟩, hl.at fun o e => Heap.get?_push_of_some _ e⟩ (next_is_new F) (Nat.ne_of_lt F.ns.lt) (F.push _) (fun p hp => ⟨Heap.get?_push_of_some _ (N p hp).1, (N p hp).2⟩) (fun p hp => Nat.ne_of_lt (Heap.lt_size (N p hp).1)) hm rest.heap
end
end VJ
end

section
open PySem PySem.W PyProof.Rows PySem.Calls PySem.Spec PyProof.V
namespace VJ
set_option maxRecDepth 100000
theorem fillQ2 : K9 = K9 ∧ PySem.Challenge.rw_vj0024_01 = PySem.Challenge.rw_vj0024_01 := by
  k_fill
  exact ⟨rfl, rfl⟩
section
variable {prog : Program} {w : World} {A : Around} {E : Value → Shared → Prop} {s : Shared} {h₀ h : Heap} {L d a : Addr} {m : Str → Option Value} {news : List (Addr × Obj)} {o : Obj} {C : Addr} {sl : Array (Option Value)}
abbrev others (d : Addr) (news : List (Addr × Obj)) : List (Addr × Obj) := news.filter fun q => decide (q.1 ≠ d)
theorem front (N : News h₀ L h news) (hm : (d, o) ∈ news) : News h₀ L h ((d, o) :: others d news) := fun q hq => by
  rcases List.mem_cons.mp hq with rfl | hq
  · exact N _ hm
  · exact N q (List.mem_filter.mp hq).1
theorem front_ne : ∀ p ∈ others d news, p.1 ≠ d := fun _ hp => of_decide_eq_true (List.mem_filter.mp hp).2
theorem front_kept (N : News h₀ L h news) (hm : (d, o) ∈ news) (hc : o.cls = .type "dict") (o' : Obj) (hc' : o'.cls = .type "dict") : Kept d news ((d, o') :: others d news) where
  keep q hq e := .tail _ (List.mem_filter.mpr ⟨hq, decide_eq_true e⟩)
  adr := ⟨o', .head _, hc'⟩
  nd q hq hn e := by
    have h1 := (N _ hm).1
    have h2 := (N _ hq).1
    rw [e, h1] at h2
    exact hn (Option.some.inj h2 ▸ hc)
theorem News.one (N : News h₀ L h news) {o' : Obj} (h1 : (d, o) ∈ news) (h2 : (d, o') ∈ news) : o = o' := by
  have a := (N _ h1).1
  have b := (N _ h2).1
  rw [a] at b; exact Option.some.inj b
/-- d[k] = v, the dict anywhere in the ledger -/
theorem set_item_any {K : Type} [DecidableEq K] {knd : KeyKind prog w K} {kvs : List (K × Value)} {k : K} {key v : Value} {Q : Unit → Shared → Prop} (F : Fr h₀ L s.heap m) (N : News h₀ L s.heap news) (hm : (d, o) ∈ news) (hd : o.IsDictOf knd kvs) (hkey : knd.is k key = true) (hsz : kvs.length ≤ sizeLine)
    (h : ∀ h' o' news', Fr h₀ L h' m → News h₀ L h' news' → Kept d news news' → (d, o') ∈ news' → o'.IsDictOf knd (stored kvs k v) → Q () { s with heap := h', toks := s.toks + 1 }) : wpAny (model prog w) A (setItem (.ref d) key v) Q E s :=
  kda_set F (front N hm) (.head front_ne) hd hkey hsz fun h' o' F' N' hd' => h h' o' _ F' N' (front_kept N hm (let ⟨_, _, x, _⟩ := hd; x.1) o' (let ⟨_, _, x, _⟩ := hd'; x.1)) (.head _) hd'
/-- self.oids = v -/
theorem set_oids {es : List DictEntry} {n : Nat} {v : Value} {Q : Unit → Shared → Prop} (hC : Kls C) (F : Fr h₀ L s.heap m) (X : (K9 w.params).In h₀) (N : News h₀ L s.heap news) (h1 : (a, (⟨.ref C, some d, .plain, sl⟩ : Obj)) ∈ news) (h2 : (d, dictOf es n) ∈ news)
    (hes : es = [] ∨ ∃ hsh tk u, es = [⟨hsh, .str (Str.ofString "oids") tk, u⟩])
    (h : ∀ h' news' hsh tk n', Fr h₀ L h' m → News h₀ L h' news' → Kept d news news' → (d, dictOf [⟨hsh, .str (Str.ofString "oids") tk, v⟩] n') ∈ news' → Q () { s with heap := h', toks := s.toks + 2 }) :
    wpAny (model prog w) A (setAttr (.ref a) (Str.ofString "oids") v) Q E s := by
  have I : InstAt s.heap a _ C _ := InstAt.of_news N h1 h2
  rcases hes with rfl | ⟨hsh, tk, u, rfl⟩
  · refine set_dict F X (front N h2) I rfl ?_ ?_ ?_ ?_ rfl (es' := [⟨PyData.keyHash w.params (Str.ofString "oids"), .str (Str.ofString "oids") (s.toks + 1), v⟩]) (n' := n + 1) rfl (.head front_ne) (by simp) fun h' F' N' => h h' _ _ _ _ F' N' (front_kept N h2 rfl _ rfl) (.head _)
    all_goals (rcases hC with rfl | rfl | rfl | rfl | rfl <;> k_is)
  · refine set_dict F X (front N h2) I rfl ?_ ?_ ?_ ?_ rfl (es' := [⟨hsh, .str (Str.ofString "oids") tk, v⟩]) (n' := n) rfl (.head front_ne) (by simp) fun h' F' N' => h h' _ _ _ _ F' N' (front_kept N h2 rfl _ rfl) (.head _)
    all_goals (rcases hC with rfl | rfl | rfl | rfl | rfl <;> k_is)
variable {ak : Ask} {nm : Str} {Xf D : Nat → Addr} {news₂ : List (Addr × Obj)} {od : Obj} {Q : Value → Shared → Prop} {expr : Bool}
theorem kls_cls (ak : Ask) : Kls ak.cls := by
  cases ak
  · exact .inl rfl
  · exact .inr (.inr (.inr (.inr rfl)))
  · exact .inr (.inr (.inr (.inl rfl)))
  · exact .inr (.inr (.inl rfl))
  · exact .inr (.inl rfl)
/-- self.name -/
theorem name_K (F : Fr h₀ L s.heap m) (X : (K9 w.params).In h₀) (N : News h₀ L s.heap news) (h1 : (a, (⟨.ref ak.cls, some d, .plain, sl⟩ : Obj)) ∈ news) (hS : SlotsAre news₂ Xf nm sl ak) (h2 : (d, od) ∈ news)
    (h : ∀ tn, Q (.str nm tn) { s with toks := s.toks + 1 }) : wpAny (model prog w) A (getAttr (.ref a) (Str.ofString "name") expr) Q E s := by
  have I : InstAt s.heap a _ ak.cls _ := InstAt.of_news N h1 h2
  cases ak with
  | word x =>
    obtain ⟨_, t, idt, tn, rfl⟩ := hS
    refine' get_slot (C := 367) F X I ?k4 ?k5 ?k6 ?k7 ?k8 ?k9 ?k10 ?k11 (h tn)
    case k4 => k_is
    case k5 => k_is
    case k6 => k_is
    case k7 => k_is
    case k8 => k_is
    case k9 => k_is
    case k10 => rfl
    case k11 => rfl
  | many l1 l2 l3 =>
    obtain ⟨_, M, n, idt, tn, mx, tl, rfl, _⟩ := hS
    refine' get_slot (C := 528) F X I ?k4 ?k5 ?k6 ?k7 ?k8 ?k9 ?k10 ?k11 (h tn)
    case k4 => k_is
    case k5 => k_is
    case k6 => k_is
    case k7 => k_is
    case k8 => k_is
    case k9 => k_is
    case k10 => rfl
    case k11 => rfl
  | look l1 l2 =>
    obtain ⟨M, n, idt, tn, rfl, _⟩ := hS
    refine' get_slot (C := 489) F X I ?k4 ?k5 ?k6 ?k7 ?k8 ?k9 ?k10 ?k11 (h tn)
    case k4 => k_is
    case k5 => k_is
    case k6 => k_is
    case k7 => k_is
    case k8 => k_is
    case k9 => k_is
    case k10 => rfl
    case k11 => rfl
  | choice l1 l2 =>
    obtain ⟨M, n, idt, tn, rfl, _⟩ := hS
    refine' get_slot (C := 451) F X I ?k4 ?k5 ?k6 ?k7 ?k8 ?k9 ?k10 ?k11 (h tn)
    case k4 => k_is
    case k5 => k_is
    case k6 => k_is
    case k7 => k_is
    case k8 => k_is
    case k9 => k_is
    case k10 => rfl
    case k11 => rfl
  | chain l1 l2 =>
    obtain ⟨M, n, idt, tn, rfl, _⟩ := hS
    refine' get_slot (C := 425) F X I ?k4 ?k5 ?k6 ?k7 ?k8 ?k9 ?k10 ?k11 (h tn)
    case k4 => k_is
    case k5 => k_is
    case k6 => k_is
    case k7 => k_is
    case k8 => k_is
    case k9 => k_is
    case k10 => rfl
    case k11 => rfl
/-- self._uncached_match -/
theorem um_K {es : List DictEntry} {n : Nat} {pl : Sem Bool} {Q : Value × List Value → Shared → Prop} (F : Fr h₀ L s.heap m) (X : (K9 w.params).In h₀) (N : News h₀ L s.heap news) (h1 : (a, (⟨.ref ak.cls, some d, .plain, sl⟩ : Obj)) ∈ news) (h2 : (d, dictOf es n) ∈ news)
    (hes : es = [] ∨ ∃ hsh tk u, es = [⟨hsh, .str (Str.ofString "oids") tk, u⟩]) (h : Q (.ref ak.um, [.ref a]) s) : wpAny (model prog w) A (getMethod (.ref a) (Str.ofString "_uncached_match") pl) Q E s := by
  have I : InstAt s.heap a _ ak.cls _ := InstAt.of_news N h1 h2
  have hl : getL (Str.ofString "_uncached_match") es = some none := by
    rcases hes with rfl | ⟨hsh, tk, u, rfl⟩
    · rfl
    · rfl
  have key : ∀ (C f : Addr), ((C = (367 : Nat) ∧ f = (356 : Nat)) ∨ (C = (425 : Nat) ∧ f = (415 : Nat)) ∨ (C = (451 : Nat) ∧ f = (441 : Nat)) ∨ (C = (489 : Nat) ∧ f = (478 : Nat)) ∨ (C = (528 : Nat) ∧ f = (517 : Nat))) →
      plainGet (K9 w.params) C (Str.ofString "_uncached_match") = true ∧ findIn (K9 w.params) (.ref C) (Str.ofString "_uncached_match") = some (some (.ref f)) ∧ isFn (K9 w.params) (.ref f) = true := by
    rintro C f (⟨rfl, rfl⟩ | ⟨rfl, rfl⟩ | ⟨rfl, rfl⟩ | ⟨rfl, rfl⟩ | ⟨rfl, rfl⟩) <;> exact ⟨by k_is, by k_is, by k_is⟩
  obtain ⟨k1, k2, k3⟩ := key ak.cls ak.um (by
    cases ak
    · exact .inl ⟨rfl, rfl⟩
    · exact .inr (.inr (.inr (.inr ⟨rfl, rfl⟩)))
    · exact .inr (.inr (.inr (.inl ⟨rfl, rfl⟩)))
    · exact .inr (.inr (.inl ⟨rfl, rfl⟩))
    · exact .inr (.inl ⟨rfl, rfl⟩))
  exact method_inst F X I k1 k2 k3 hl h
/-- getattr(error.expr, 'name', None) -/
theorem ga_name_K {k : Nat} {P : Nat → Ask} {v : Value} {t : Tok} (F : Fr h₀ L s.heap m) (X : (K9 w.params).In h₀) (N : News h₀ L s.heap news) (hE : ExprIs news Xf D k (P k))
    (hh : A.handled = none) (hdp : A.depth ≤ 900) (hu : A.units ≤ 9000) (h : ∀ x t h' tk, Fr h₀ L h' m → News h₀ L h' news → Q (.str x t) { s with heap := h', toks := tk }) :
    wpAny (model prog w) A (call (.builtin "getattr") [.ref (Xf k), .str (Str.ofString "name") t, v]) Q E s := by
  obtain ⟨sl, nm, hn, hm, hS⟩ := hE
  have g := (N _ hm).1
  have z : ∃ o1 o2 tn, (s.heap.get? (Xf k) = some ⟨.ref 367, some (D k), .plain, #[some o1, some o2, some (.str nm tn)]⟩) ∨ (s.heap.get? (Xf k) = some ⟨.ref 425, some (D k), .plain, #[some o1, some o2, some (.str nm tn)]⟩) ∨ (s.heap.get? (Xf k) = some ⟨.ref 451, some (D k), .plain, #[some o1, some o2, some (.str nm tn)]⟩)
       ∨ (∃ o3, s.heap.get? (Xf k) = some ⟨.ref 489, some (D k), .plain, #[some o1, some o2, some o3, some (.str nm tn)]⟩) ∨ (∃ o3 o4, s.heap.get? (Xf k) = some ⟨.ref 528, some (D k), .plain, #[some o1, some o2, some o3, some o4, some (.str nm tn)]⟩) := by
    cases hP : P k with
    | word x => rw [hP] at g hS; obtain ⟨_, t, idt, tn, rfl⟩ := hS; exact ⟨_, _, _, .inl g⟩
    | chain l1 l2 => rw [hP] at g hS; obtain ⟨M, n, idt, tn, rfl, _⟩ := hS; exact ⟨_, _, _, .inr (.inl g)⟩
    | choice l1 l2 => rw [hP] at g hS; obtain ⟨M, n, idt, tn, rfl, _⟩ := hS; exact ⟨_, _, _, .inr (.inr (.inl g))⟩
    | look l1 l2 => rw [hP] at g hS; obtain ⟨M, n, idt, tn, rfl, _⟩ := hS; exact ⟨_, _, _, .inr (.inr (.inr (.inl ⟨_, g⟩)))⟩
    | many l1 l2 l3 => rw [hP] at g hS; obtain ⟨_, M, n, idt, tn, mx, tl, rfl, _⟩ := hS; exact ⟨_, _, _, .inr (.inr (.inr (.inr ⟨_, _, g⟩)))⟩
  obtain ⟨o1, o2, tn, z⟩ := z
  exact grew_use (ga_name (C := 0) (o3 := .none) (t1 := t) (es := #[]) (n := 0) (v := v) (X.keeps F.keep) z) F N hh hdp hu fun r h' tk e F' N' => by obtain ⟨t', rfl⟩ := e; exact h nm t' h' tk F' N'
/-- error.expr = self; error.pos = pos -/
theorem set_err_expr {x1 x2 x3 x4 x5 x6 v1 v2 v3 v : Value} {g1 g2 g3 : Int} {a1 a3 a5 : Tok} {n : Nat} {Q : Unit → Shared → Prop} (F : Fr h₀ L s.heap m) (X : (K9 w.params).In h₀) (N : News h₀ L s.heap news) (h1 : (a, errObj d x1 x2 x3 x4 x5 x6) ∈ news) (h2 : (d, dictOf (errEs g1 g2 g3 a1 a3 a5 v1 v2 v3) n) ∈ news)
    (h : ∀ h' news' n', Fr h₀ L h' m → News h₀ L h' news' → Kept d news news' → (d, dictOf (errEs g1 g2 g3 a1 a3 a5 v1 v2 v) n') ∈ news' → Q () { s with heap := h', toks := s.toks + 2 }) : wpAny (model prog w) A (setAttr (.ref a) (Str.ofString "expr") v) Q E s :=
  exc_set F X (front N h2) (InstAt.of_news' N h1 rfl rfl rfl h2) rfl (by k_is) rfl (es' := errEs g1 g2 g3 a1 a3 a5 v1 v2 v) (n' := n) rfl (.head front_ne) (by simp) fun h' F' N' => h h' _ _ F' N' (front_kept N h2 rfl _ rfl) (.head _)
theorem set_err_pos {x1 x2 x3 x4 x5 x6 v1 v2 v3 v : Value} {g1 g2 g3 : Int} {a1 a3 a5 : Tok} {n : Nat} {Q : Unit → Shared → Prop} (F : Fr h₀ L s.heap m) (X : (K9 w.params).In h₀) (N : News h₀ L s.heap news) (h1 : (a, errObj d x1 x2 x3 x4 x5 x6) ∈ news) (h2 : (d, dictOf (errEs g1 g2 g3 a1 a3 a5 v1 v2 v3) n) ∈ news)
    (h : ∀ h' news' n', Fr h₀ L h' m → News h₀ L h' news' → Kept d news news' → (d, dictOf (errEs g1 g2 g3 a1 a3 a5 v1 v v3) n') ∈ news' → Q () { s with heap := h', toks := s.toks + 2 }) : wpAny (model prog w) A (setAttr (.ref a) (Str.ofString "pos") v) Q E s :=
  exc_set F X (front N h2) (InstAt.of_news' N h1 rfl rfl rfl h2) rfl (by k_is) rfl (es' := errEs g1 g2 g3 a1 a3 a5 v1 v v3) (n' := n) rfl (.head front_ne) (by simp) fun h' F' N' => h h' _ _ F' N' (front_kept N h2 rfl _ rfl) (.head _)
/-- getattr(self, 'oids', ()) -/
theorem oids_K {ps : List (Int × Addr)} {e0 : Addr} {n0 : Nat} {t : Tok} (hC : Kls C) (F : Fr h₀ L s.heap m) (X : (K9 w.params).In h₀) (N : News h₀ L s.heap news) (h1 : (a, (⟨.ref C, some d, .plain, sl⟩ : Obj)) ∈ news) (hO : OidsAre news d ps) (h0 : (e0, tupO [] n0) ∈ news)
    (hh : A.handled = none) (hdp : A.depth ≤ 900) (hu : A.units ≤ 9000) (h : ∀ T ts n' h' tk, Fr h₀ L h' m → News h₀ L h' news → (T, tupO (ts.map Value.ref) n') ∈ news → PairsAre news ts ps → Q (.ref T) { s with heap := h', toks := tk }) :
    wpAny (model prog w) A (call (.builtin "getattr") [.ref a, .str (Str.ofString "oids") t, .ref e0]) Q E s := by
  rcases hO with ⟨rfl, n, hm⟩ | ⟨hsh, tk, T, ts, n, n', hm, h2, h3⟩
  · exact ga_miss_K hC F X N h1 hm hh hdp hu fun h' tk F' N' => h e0 [] n0 h' tk F' N' h0 trivial
  · exact ga_own_K hC F X N h1 hm hh hdp hu fun h' tk' F' N' => h T ts n' h' tk' F' N' h2 h3
theorem PairsAre.mem : ∀ {ts : List Addr} {qs : List (Int × Addr)}, PairsAre news ts qs → ∀ t ∈ ts, ∃ q ∈ qs, ∃ tk n, (t, tupO [.int q.1 tk, .ref q.2] n) ∈ news
  | [], [], _, _, h => nomatch h
  | t :: ts, q :: qs, ⟨h1, h2⟩, u, hu => by
    rcases List.mem_cons.mp hu with rfl | hu
    · exact ⟨q, .head _, h1⟩
    · obtain ⟨q', a, b⟩ := PairsAre.mem h2 u hu
      exact ⟨q', .tail _ a, b⟩
  | [], _ :: _, h, _, _ => h.elim
  | _ :: _, [], h, _, _ => h.elim
theorem PairsAre.length : ∀ {ts : List Addr} {qs : List (Int × Addr)}, PairsAre news ts qs → ts.length = qs.length
  | [], [], _ => rfl
  | _ :: _, _ :: _, ⟨_, h⟩ => congrArg (· + 1) (PairsAre.length h)
  | [], _ :: _, h => h.elim
  | _ :: _, [], h => h.elim
theorem OidsAre.form {ps : List (Int × Addr)} (h : OidsAre news d ps) : ∃ es n, (d, dictOf es n) ∈ news ∧ (es = [] ∨ ∃ hsh tk u, es = [⟨hsh, .str (Str.ofString "oids") tk, u⟩]) := by
  rcases h with ⟨_, n, hm⟩ | ⟨hsh, tk, T, ts, n, n', h1, _, _⟩
  · exact ⟨_, _, hm, .inl rfl⟩
  · exact ⟨_, _, h1, .inr ⟨_, _, _, rfl⟩⟩
theorem isTup_of (N : News h₀ L h news) {vs : List Value} {n : Nat} (hm : (a, tupO vs n) ∈ news) : IsTup h a vs.toArray := ⟨_, (N _ hm).1, rfl, n, rfl⟩
/-- (pair,) + oids -/
theorem add_oids {t T pr : Addr} {ts : List Addr} {n1 n2 : Nat} (F : Fr h₀ L s.heap m) (N : News h₀ L s.heap news) (ht : (t, tupO [.ref pr] n1) ∈ news) (hT : (T, tupO (ts.map Value.ref) n2) ∈ news) (hz : ts.length ≤ 100)
    (h : ∀ T' n' h' news', Fr h₀ L h' m → News h₀ L h' news' → (∀ q ∈ news, q ∈ news') → (T', tupO ((pr :: ts).map Value.ref) n') ∈ news' → Q (.ref T') { s with heap := h' }) :
    wpAny (model prog w) A (binaryOp .Add (.ref t) (.ref T)) Q E s := by
  refine add_tuples F N (isTup_of N ht) (isTup_of N hT) (fun e => by cases e) (fun _ e => ?_) (fun _ _ h' F' N' => ?_) (by rw [sizeLine_eq]; simp; omega)
  · have : ts = [] := by cases ts with | nil => rfl | cons _ _ => cases e
    subst this
    exact h t n1 s.heap news F N (fun _ h => h) ht
  · exact h _ _ h' _ F' N' (fun _ h => .tail _ h) (.head _)
end
end VJ
end

section
open PySem PySem.W PyProof.Rows PySem.Calls PySem.W.X
namespace VJ
set_option maxRecDepth 100000
theorem fillLR : K9 = K9 ∧ PySem.Challenge.rw_vj0024_01 = PySem.Challenge.rw_vj0024_01 := by
  k_fill
  exact ⟨rfl, rfl⟩
/-- three of the objects made, at their places -/
def MadeX (new : List (Addr × Obj)) (i j k : Nat) (a : Addr) (f : Addr → Addr → Obj) (g : Obj) (H : Obj → Obj) : Prop :=
  at3 new i j k = (at3 new i j k).map fun z => ((a, f z.2.1.1 z.2.2.1), (z.2.1.1, g), (z.2.2.1, H z.2.2.2))
theorem madeX_of {h₀ h : Heap} {new : List (Addr × Obj)} {i j k : Nat} {a : Addr} {f : Addr → Addr → Obj} {g : Obj} {H : Obj → Obj} (D : Mem h₀ h [] new) (m : MadeX new i j k a f g H) (hs : (at3 new i j k).isSome = true) : ∃ tp d o, Grew h₀ h [(a, f tp d), (tp, g), (d, H o)] := by
  unfold MadeX at m
  obtain ⟨⟨p, q, r⟩, e⟩ := Option.isSome_iff_exists.mp hs
  rw [e, Option.map_some] at m
  simp only [Option.some.injEq, Prod.mk.injEq] at m
  obtain ⟨hp, hq, hr⟩ := m
  unfold at3 at e
  split at e
  · rename_i p' q' r' e1 e2 e3
    cases e
    refine ⟨q.1, r.1, r.2, grew_cons D ?_ (grew_cons D ?_ (grew1 D ?_))⟩
    · rw [← hp]; exact List.mem_of_getElem? e1
    · rw [← hq]; exact List.mem_of_getElem? e2
    · rw [← hr]; exact List.mem_of_getElem? e3
  · cases e
def entAt (o : Obj) (i : Nat) : DictEntry := match o.data with
  | .dict es _ => (es[i]?).getD ⟨0, .none, .none⟩
  | _ => ⟨0, .none, .none⟩
def tokOf : Value → Tok
  | .str _ t => t
  | _ => 0
def tokI : Value → Tok
  | .int _ t => t
  | _ => 0
def cntOf (o : Obj) : Nat := match o.data with
  | .dict _ n => n
  | _ => 0
/-- the own dict of an error as it lies -/
def errDict (v1 v2 v3 : Value) (o : Obj) : Obj := dictOf (errEs (entAt o 0).hash (entAt o 1).hash (entAt o 2).hash (tokOf (entAt o 0).key) (tokOf (entAt o 1).key) (tokOf (entAt o 2).key) v1 v2 v3) (cntOf o)
abbrev excObj (C : Addr) (tp d : Addr) : Obj := ⟨.ref C, some d, .fields #[.ref tp, .none, .none, .none, .bool false, .none], #[]⟩
section
local macro_rules | `(tactic| x_close) => `(tactic| (refine' ⟨_, _, _, _, rfl, rfl, ?D, ?m, ?s⟩; (case D => assumption); (case m => (unfold MadeX; kernel_rfl)); (case s => kernel_rfl)))
set_option maxHeartbeats 400000 in
theorem x_lre {prog : Program} {w : World} {s : Shared} {x : Str} {t l1 : Tok} {v1 : Addr} {i1 : Int} (X : (K9 w.params).In s.heap) :
    wpAny (model prog w) A9 (call (.ref 106) [.str x t] [(Str.ofString "pos", .int i1 l1), (Str.ofString "expr", .ref v1)])
      (fun v s' => ∃ a h tk new, v = .ref a ∧ s' = ⟨h, s.gens, s.drawn, tk, s.os⟩ ∧ Mem s.heap h [] new ∧ MadeX new 2 3 0 a (excObj 106) { cls := .type "tuple", data := .seq #[.str x t] 0 } id ∧ (at3 new 2 3 0).isSome = true) (fun _ _ => False) s := by
  x_run
set_option maxHeartbeats 400000 in
theorem x_pe {prog : Program} {w : World} {s : Shared} {x : Str} {t : Tok} (X : (K9 w.params).In s.heap) :
    wpAny (model prog w) A9 (call (.ref 87) [.str x t] [])
      (fun v s' => ∃ a h tk new, v = .ref a ∧ s' = ⟨h, s.gens, s.drawn, tk, s.os⟩ ∧ Mem s.heap h [] new ∧ MadeX new 2 3 0 a (excObj 87) { cls := .type "tuple", data := .seq #[.str x t] 0 } (fun o => errDict (.str x t) (.int (-1) (tokI (entAt o 1).val)) .none o) ∧ (at3 new 2 3 0).isSome = true) (fun _ _ => False) s := by
  x_run
end
section
variable {prog : Program} {w : World} {A : Around} {E : Value → Shared → Prop} {Q : Value → Shared → Prop} {s : Shared} {h₀ : Heap} {L : Addr} {m : Str → Option Value} {news : List (Addr × Obj)}
theorem lre_K {x : Str} {t l1 : Tok} {v1 : Addr} {i1 : Int} (F : Fr h₀ L s.heap m) (X : (K9 w.params).In h₀) (N : News h₀ L s.heap news) (hh : A.handled = none) (hdp : A.depth ≤ 900) (hu : A.units ≤ 9000)
    (h : ∀ a tp d o h' tk, Fr h₀ L h' m → News h₀ L h' news → Grew s.heap h' [(a, excObj 106 tp d), (tp, { cls := .type "tuple", data := .seq #[.str x t] 0 }), (d, o)] → Q (.ref a) { s with heap := h', toks := tk }) :
    wpAny (model prog w) A (call (.ref 106) [.str x t] [(Str.ofString "pos", .int i1 l1), (Str.ofString "expr", .ref v1)]) Q E s := by
  refine wpAny_mono (wide_around (x_lre (X.keeps F.keep)) hh hdp hu) (fun r s' q => ?_) fun _ _ e => e.elim
  obtain ⟨a, h', tk, new, rfl, rfl, D, m', hs⟩ := q
  obtain ⟨tp, d, o, G⟩ := madeX_of D m' hs
  exact h a tp d (id o) h' tk (grew_fr (new := []) F ⟨G.keep, fun _ h => nomatch h⟩) (by have := grew_news (new := []) F N ⟨G.keep, fun _ h => nomatch h⟩; simpa using this) G
theorem pe_K {x : Str} {t : Tok} (F : Fr h₀ L s.heap m) (X : (K9 w.params).In h₀) (N : News h₀ L s.heap news) (hh : A.handled = none) (hdp : A.depth ≤ 900) (hu : A.units ≤ 9000)
    (h : ∀ a tp d o h' tk, Fr h₀ L h' m → News h₀ L h' ([(a, excObj 87 tp d), (tp, { cls := .type "tuple", data := .seq #[.str x t] 0 }), (d, errDict (.str x t) (.int (-1) (tokI (entAt o 1).val)) .none o)] ++ news) →
      (∀ p ∈ [(a, excObj 87 tp d), (tp, { cls := .type "tuple", data := .seq #[.str x t] 0 }), (d, errDict (.str x t) (.int (-1) (tokI (entAt o 1).val)) .none o)], ∀ q ∈ news, q.1 ≠ p.1) → Q (.ref a) { s with heap := h', toks := tk }) :
    wpAny (model prog w) A (call (.ref 87) [.str x t]) Q E s := by
  refine wpAny_mono (wide_around (x_pe (X.keeps F.keep)) hh hdp hu) (fun r s' q => ?_) fun _ _ e => e.elim
  obtain ⟨a, h', tk, new, rfl, rfl, D, m', hs⟩ := q
  obtain ⟨tp, d, o, G⟩ := madeX_of D m' hs
  exact h a tp d o h' tk (grew_fr F G) (grew_news F N G) fun p hp q hq => grew_ne N G hp hq
end
section
variable {M : Model} {A : Around} {E : Value → Shared → Prop} {s' : Shared} {base g h : Heap} {outer : List Env} {L a e t : Addr} {m : Str → Option Value} {name : Str} {scope : Scope} {cd : Value} {Q : Unit → Shared → Prop} {news : List (Addr × Obj)}
/-- an error that was made with attributes of its own leaves the def that raised it -/
theorem leave_raise_d {cls : Value} {args : List Value} {oe : Obj} {vs : Array Value} {n : Nat} (K : Below A base outer g) (keeps : ∀ b o, h.get? b = some o → s'.heap.get? b = some o) (new : h.get? e = none) (he : s'.heap.get? e = some oe) (hc : oe.cls = cls) (hd : oe.data = .fields vs)
    (h0 : vs[0]? = some (.ref t)) (h1 : vs[1]? = some .none) (htn : h.get? t = none) (ht : s'.heap.get? t = some { cls := .type "tuple", data := .seq args.toArray n }) (F : Fr g L h m) (N : News g L h news)
    (hQ : ∀ h', RaisedS base g outer e cls t args news h' → g.UpToSlots h' → Q () { s' with heap := h' }) (hk : scope.kind = .function := by rfl) :
    wpAny M (A.deeper (envOf name scope L a cd)) (leaving (envOf name scope L a cd) (.ref e)) Q E s' := by
  have K' := K.push (name := name) (a := a) (cd := cd) F hk
  have hin : ∀ env ∈ (envOf name scope L a cd :: outer), ∀ b, env.frame = some b → b ∈ (envOf name scope L a cd :: outer).filterMap (·.frame) := fun env he b hb => List.mem_filterMap.mpr ⟨env, he, hb⟩
  have st : base.StaysIn (hideAll h ((envOf name scope L a cd :: outer).filterMap (·.frame))) := fun b o q => hideAll_get _ (K'.stays b o q) fun hm => by
    rw [(K'.frames.mem hm).1] at q; cases q
  have sg : ∀ b o, g.get? b = some o → b ∉ outer.filterMap (·.frame) → (hideAll h ((envOf name scope L a cd :: outer).filterMap (·.frame))).get? b = some o := fun b o q nm => hideAll_get _ (F.keep b o q) fun hm => by
    rcases kts_mem hm with z | z
    · rw [z, kts_self F] at q
      cases q
    · exact nm z
  have hl : ∀ q ∈ news, (hideAll h ((envOf name scope L a cd :: outer).filterMap (·.frame))).get? q.1 = some q.2 ∧ g.get? q.1 = none ∧ base.get? q.1 = none := fun q hq => by
    refine ⟨hideAll_get _ (N q hq).1 fun hm => ?_, (N q hq).2.2, fresh_of_stays K.stays (N q hq).2.2⟩
    obtain ⟨env, he, hf⟩ := List.mem_filterMap.mp hm
    rcases List.mem_cons.mp he with rfl | he
    · exact (N q hq).2.1 (Option.some.inj hf).symm
    · obtain ⟨o, ho, _⟩ := (K.frames.mem (List.mem_filterMap.mpr ⟨env, he, hf⟩)).2
      rw [(N q hq).2.2] at ho; cases ho
  have fresh : ∀ b, (hideAll h ((envOf name scope L a cd :: outer).filterMap (·.frame))).get? b = none ∨ h.get? b = none → base.get? b = none := fun b hb => by
    cases hq : base.get? b with
    | none => rfl
    | some o' =>
      rcases hb with hb | hb
      · have := st b o' hq; rw [hb] at this; cases this
      · have := of_hideAll _ (st b o' hq); rw [hb] at this; cases this
  have fr := funFrames_hide K'.frames hin
  have hid : (hideAll h ((envOf name scope L a cd :: outer).filterMap (·.frame))).get? e = none := by
    cases hq : (hideAll h ((envOf name scope L a cd :: outer).filterMap (·.frame))).get? e with
    | none => rfl
    | some o' => have := of_hideAll _ hq; rw [new] at this; cases this
  have hidt : (hideAll h ((envOf name scope L a cd :: outer).filterMap (·.frame))).get? t = none := by
    cases hq : (hideAll h ((envOf name scope L a cd :: outer).filterMap (·.frame))).get? t with
    | none => rfl
    | some o' => have := of_hideAll _ hq; rw [htn] at this; cases this
  subst hc
  refine wpAny_leaving_firstW (a0 := .ref t) K'.stack (fr.of_keeps fun b o hb _ => ⟨o, keeps b o hb, rfl⟩) rfl he (fun b o q => keeps b o (of_hideAll _ q)) hid hd h1 h0 fun h' hL => ?_
  obtain ⟨k1, ⟨_, _, k2⟩, k3, k4⟩ := hL
  exact hQ h' ⟨⟨_, st, sg, hl, ⟨k1, hid, k2, k3⟩, hidt⟩, Heap.TupAt.of_slots ⟨_, _, ht, rfl, rfl⟩ k4⟩ (((Heap.UpToSlots.of_keeps F.keep).trans (Heap.UpToSlots.of_keeps keeps)).trans k4)
end
section
variable {prog : Program} {w : World} {A : Around} {E : Value → Shared → Prop} {s : Shared} {env : Env}
/-- an error of a class of the program's own, ready to be raised -/
def RaisableC (w : World) (E : Value → Shared → Prop) (v : Value) (s₁ : Shared) : Prop :=
  ∃ a ob vs C, v = .ref a ∧ (K9 w.params).In s₁.heap ∧ s₁.heap.get? a = some ob ∧ ob.cls = .ref C ∧ mroIn (K9 w.params) C (.type "BaseException") = some true ∧ typeIn (K9 w.params) (.ref C) = some (.type "type") ∧ ob.data = .fields vs ∧ vs[1]? = some .none ∧ E (.ref a) s₁
theorem Raise_c {e : PySem.Expr} {pos : Pos} {Q : Flow → Shared → Prop} (hh : A.handled = none)
    (h : wpAny (model prog w) A (eval e env) (RaisableC w E) E s) : wpAny (model prog w) A (exec (.Raise (some e) none pos) env) Q E s := by
  show wpAny (model prog w) A (do standAt pos; raiseStmt env (some (do let v ← eval e env; standAt pos; pure v)) none) Q E s
  refine wpAny_bind (wpAny_standAt ?_)
  unfold raiseStmt
  dsimp only
  refine wpAny_bind (wpAny_bind (wpAny_mono h (fun v s₁ h₁ => wpAny_bind (wpAny_standAt (wpAny_pure ?_))) fun _ _ x => x))
  obtain ⟨a, ob, vs, C, rfl, X, ha, hcls, hm, hty, hd, h1, hE⟩ := h₁
  have hT : ∀ {Q' : Value → Shared → Prop}, Q' (.ref C) s₁ → wpAny (model prog w) A (typeOf (.ref a)) Q' E s₁ := by
    intro Q' hq
    unfold typeOf
    refine wpAny_bind (wpAny_loadPart ha ?_)
    rw [hcls]; exact wpAny_pure hq
  have hnt : ∀ {Q' : Bool → Shared → Prop}, Q' false s₁ → wpAny (model prog w) A (isType (.ref a)) Q' E s₁ := by
    intro Q' hq
    simp only [isType, loadHead]
    refine wpAny_bind (wpAny_loadPart ha ?_)
    rw [hd]; exact wpAny_pure hq
  refine wpAny_bind (wpAny_pure ?_)
  dsimp only
  refine wpAny_bind (wpAny_holding ?_)
  unfold excFromValue isExcClass
  refine wpAny_bind (wpAny_bind (hnt ?_))
  simp only [Bool.false_eq_true, if_false]
  refine wpAny_pure ?_
  simp only [Bool.false_eq_true, if_false]
  unfold isInstance
  refine wpAny_bind (wpAny_bind (hT ((looks_mroIn X hm).here ?_)))
  simp only [if_true]
  refine wpAny_pure ?_
  refine wpAny_bind (hnt ?_)
  simp only [Bool.false_eq_true, if_false]
  unfold raisedInstance
  refine wpAny_bind (wpAny_bind (hT (wpAny_bind ((looks_typeIn X hty).here ?_))))
  rw [if_pos (show (Value.type "type" == Value.type "type") = true from beq_self_eq_true _)]
  refine wpAny_pure ?_
  unfold setFlight raiseNew
  refine wpAny_bind (wpAny_bind (wpAny_field ha hd h1 ?_))
  rw [if_neg (by decide)]
  refine wpAny_pure (wpAny_bind (wpAny_handled ?_))
  rw [hh]
  first
    | exact wpAny_throw hE
    | exact wpAny_bind (wpAny_pure (wpAny_throw hE))
end
end VJ
end

section
open PySem PySem.W PyProof.Rows PySem.Calls PySem.Spec PyProof.V
namespace VJ
set_option maxRecDepth 100000
theorem fillQ9 : K9 = K9 ∧ PySem.Challenge.rw_vj0024_01 = PySem.Challenge.rw_vj0024_01 := by
  k_fill
  exact ⟨rfl, rfl⟩
/-- the pieces between two matches -/
structure MStat (news : Led1) (X D : Nat → Addr) (P : Nat → Ask) (ks : List Nat) (B : Nat) : Prop where
  expr : ∀ k ∈ ks, ExprIs news X D k (P k)
  oid : ∀ k ∈ ks, ∃ ps, OidsAre news (D k) ps ∧ (∀ q ∈ ps, DAt news q.2) ∧ ps.length ≤ B
  nodup : (ks.map D).Nodup
section
variable {prog : Program} {w : World} {news news' : Led1} {X D : Nat → Addr} {P : Nat → Ask} {ks : List Nat} {len B : Nat} {cd er dE : Addr} {mm : Memo} {cs : List (Nat × Addr)}
theorem MInv.stat (M : MInv prog w news X D P ks len B cd er dE mm cs) : MStat news X D P ks (B + 1) where
  expr := M.expr
  oid k hk := by
    obtain ⟨ps, a, b, c⟩ := M.oid k hk
    refine ⟨ps, a, b, ?_⟩
    rcases c with ⟨_, _, c⟩ | ⟨i, e, ps', _, rfl, c⟩
    · omega
    · rw [List.length_cons]; omega
  nodup := M.nd.2.2.2.2.2.2.1
theorem MStat.sup (S : MStat news X D P ks B) (h : ∀ q ∈ news, q ∈ news') : MStat news' X D P ks B where
  expr k hk := (S.expr k hk).keep fun q hq _ => h q hq
  oid k hk := let ⟨ps, a, b, c⟩ := S.oid k hk; ⟨ps, a.keep (fun q hq _ => h q hq) (fun q hq _ => h q hq), fun q hq => let ⟨o, ho, hc⟩ := b q hq; ⟨o, h _ ho, hc⟩, c⟩
  nodup := S.nodup
theorem MStat.start (S : MStat news X D P ks B) (h : ∀ q ∈ news, q ∈ news') {o : Obj} (hcd : (cd, o) ∈ news') (ho : o.IsDictOf (intKind prog w) []) (hE : ErrIs news' er dE X ks) (f1 : ∀ q ∈ news, q.1 ≠ cd) (f2 : ∀ q ∈ news, q.1 ≠ dE) (f3 : cd ≠ dE) (ht : cd ≠ sysModules) :
    MInv prog w news' X D P ks len B cd er dE (fun _ _ => none) [] where
  expr := (S.sup h).expr
  oid k hk := let ⟨ps, a, b, c⟩ := (S.sup h).oid k hk; ⟨ps, a, b, Or.inl ⟨fun _ h => (nomatch h), fun _ _ _ h => (nomatch h), c⟩⟩
  cache := ⟨o, hcd, ho⟩
  memo _ h := nomatch h
  fresh _ _ _ _ _ := rfl
  err := hE
  nodup := by
    have dm : ∀ k ∈ ks, ∃ o, (D k, o) ∈ news := fun k hk => let ⟨_, a, _⟩ := S.oid k hk; a.mem
    rw [List.map_nil, List.nil_append, List.nodup_cons, List.nodup_cons]
    refine ⟨?_, ?_, S.nodup⟩
    · intro hm
      rcases List.mem_cons.mp hm with e | hm
      · exact f3 e
      · obtain ⟨k, hk, e⟩ := List.mem_map.mp hm
        obtain ⟨o, ho⟩ := dm k hk
        exact f1 _ ho e
    · intro hm
      obtain ⟨k, hk, e⟩ := List.mem_map.mp hm
      obtain ⟨o, ho⟩ := dm k hk
      exact f2 _ ho e
  own := List.nodup_nil
  top := ⟨ht, fun _ h => (nomatch h)⟩
/-- a ledger without two of its objects -/
abbrev minus (e t : Addr) (news : Led1) : Led1 := news.filter fun q => decide (q.1 ≠ e ∧ q.1 ≠ t)
theorem mem_minus {e t : Addr} {q : Addr × Obj} : q ∈ minus e t news ↔ q ∈ news ∧ q.1 ≠ e ∧ q.1 ≠ t := by
  rw [List.mem_filter, decide_eq_true_iff]
theorem MStat.drop {h₀ h : Heap} {L e t : Addr} (N : News h₀ L h news) (S : MStat news X D P ks B) {oe ot : Obj} {x : Str} {u : Tok} {n : Nat} (he : (e, oe) ∈ news) (hc : oe.cls = .ref 87) (ht : (t, ot) ∈ news) (hc' : ot.cls = .type "tuple") (hd : ot.data = .seq #[.str x u] n) : MStat (minus e t news) X D P ks B := by
  have g : ∀ q ∈ news, q.2.cls ≠ .ref 87 → (q.2.cls ≠ .type "tuple" ∨ ∀ m, q.2.data ≠ .seq #[.str x u] m) → q ∈ minus e t news := fun q hq h1 h2 => by
    refine mem_minus.mpr ⟨hq, fun z => ?_, fun z => ?_⟩
    · have a := (N _ he).1
      have b := (N _ hq).1
      rw [z, a] at b
      exact h1 (by rw [← Option.some.inj b]; exact hc)
    · have a := (N _ ht).1
      have b := (N _ hq).1
      rw [z, a] at b
      rcases h2 with h2 | h2
      · exact h2 (by rw [← Option.some.inj b]; exact hc')
      · exact h2 n (by rw [← Option.some.inj b]; exact hd)
  have dictIn : ∀ q ∈ news, q.2.cls = .type "dict" → q ∈ minus e t news := fun q hq hc => g q hq (by rw [hc]; decide) (.inl (by rw [hc]; decide))
  have kne : ∀ a : Ask, (Value.ref a.cls) ≠ .ref 87 := fun a z => by cases a <;> cases z
  have slots : ∀ {nm : Str} {sl : Array (Option Value)} {a : Ask}, SlotsAre news X nm sl a → SlotsAre (minus e t news) X nm sl a := fun {nm sl a} S => by
    have tg : ∀ {M : Addr} {vs : List Value} {m : Nat}, (M, tupO vs m) ∈ news → (∀ y z, vs ≠ [.str y z]) → (M, tupO vs m) ∈ minus e t news := fun {M vs m} hm hv => g _ hm (fun z => by cases z) (.inr fun m' z => hv x u (by
      have z' : Data.seq vs.toArray m = .seq #[.str x u] m' := z
      injection z' with z1 z2
      simpa using congrArg Array.toList z1))
    cases a with
    | word x => exact S
    | chain o o2 => obtain ⟨M, n, i, t, e, hm⟩ := S; exact ⟨M, n, i, t, e, tg hm fun _ _ z => by simp at z⟩
    | choice o o2 => obtain ⟨M, n, i, t, e, hm⟩ := S; exact ⟨M, n, i, t, e, tg hm fun _ _ z => by simp at z⟩
    | look o g => obtain ⟨M, n, i, t, e, hm⟩ := S; exact ⟨M, n, i, t, e, tg hm fun _ _ z => by simp at z⟩
    | many o l m => obtain ⟨hl, M, n, i, t, mx, tl, e, hm, r⟩ := S; exact ⟨hl, M, n, i, t, mx, tl, e, tg hm fun _ _ z => by simp at z, r⟩
  have pairs : ∀ {ts : List Addr} {qs : List (Int × Addr)}, PairsAre news ts qs → PairsAre (minus e t news) ts qs := by
    intro ts
    induction ts with
    | nil => intro qs h; cases qs with
      | nil => trivial
      | cons => exact h.elim
    | cons t' ts ih => intro qs h; cases qs with
      | nil => exact h.elim
      | cons q qs =>
        obtain ⟨⟨tk, n, hm⟩, r⟩ := h
        refine ⟨⟨tk, n, g _ hm (fun z => by cases z) (.inr fun m' z => ?_)⟩, ih r⟩
        have z' : Data.seq #[.int q.1 tk, .ref q.2] n = .seq #[.str x u] m' := z
        injection z' with z1 z2
        have := congrArg Array.size z1
        simp at this
  refine ⟨fun k hk => ?_, fun k hk => ?_, S.nodup⟩
  · obtain ⟨sl, nm, hn, hm, r⟩ := S.expr k hk
    exact ⟨sl, nm, hn, g _ hm (kne _) (.inl fun z => by cases z), slots r⟩
  · obtain ⟨ps, a, b, c⟩ := S.oid k hk
    refine ⟨ps, ?_, fun q hq => let ⟨o, ho, hc⟩ := b q hq; ⟨o, dictIn _ ho hc, hc⟩, c⟩
    rcases a with ⟨e, n, hm⟩ | ⟨hsh, tk, T, ts, n, n', h1, h2, h3⟩
    · exact .inl ⟨e, n, dictIn _ hm rfl⟩
    · refine .inr ⟨hsh, tk, T, ts, n, n', dictIn _ h1 rfl, g _ h2 (fun z => by cases z) (.inr fun m' z => ?_), pairs h3⟩
      have z' : Data.seq (ts.map Value.ref).toArray n' = .seq #[.str x u] m' := z
      injection z' with z1 z2
      have := congrArg Array.toList z1
      cases ts with
      | nil => simp at this
      | cons y ys => simp at this
end
end VJ
end

section
open PySem PySem.W PyProof.Rows PySem.Calls PySem.Spec PyProof.V
namespace VJ
set_option maxRecDepth 100000
theorem fillRes2 : K9 = K9 ∧ PySem.Challenge.rw_vj0024_01 = PySem.Challenge.rw_vj0024_01 := by
  k_fill
  exact ⟨rfl, rfl⟩
def TabIs (news : Led1) : Prop := ∃ op ps, (((389 : Nat), op) : Addr × Obj) ∈ news ∧ op.data = .fields ps ∧ TriplesOk ps.toList ∧ op = tabObj ps
theorem code393 {w : World} {G h : Heap} {L : Addr} {m : Str → Option Value} {news : Led1} (X : (K9 w.params).In G) (F : Fr G L h m) (N : News G L h news) (T : TabIs news) : ∃ ps, h.IsCode 393 389 ps ∧ h.TableAt 393 389 ps := by
  obtain ⟨op, ps, hm, hd, ht, rfl⟩ := T
  have key : ∃ o vs file tf flags tg inF text tt, (K9 w.params).lookup 393 = some o ∧ o.cls = .type "code" ∧ o.data = .fields vs ∧ vs[11]? = some (.ref 389) ∧ vs.getD 11 .none = .ref 389 ∧ vs.getD 18 .none = .str file tf ∧ vs.getD 7 .none = .int flags tg ∧ vs.getD 9 .none = .bool inF ∧ vs.getD 10 .none = .int text tt :=
    ⟨_, _, _, _, _, _, _, _, _, rfl, rfl, rfl, rfl, rfl, rfl, rfl, rfl, rfl⟩
  obtain ⟨o, vs, file, tf, flags, tg, inF, text, tt, h1, h8, h2, h9, h3, h4, h5, h6, h7⟩ := key
  have g := F.keep _ _ (X _ _ h1)
  exact ⟨ps, ⟨o, vs, file, tf, flags, tg, inF, text, tt, _, g, h2, h3, h4, h5, h6, h7, (N _ hm).1, hd, ht, by decide⟩, ⟨o, vs, g, h8, h2, h9⟩, (N _ hm).1⟩
theorem genexprCode_T {M : Model} {A : Around} {E : Value → Shared → Prop} {s : Shared} {env : Env} {c P : Addr} {ps : Array Value} {pos : Pos} {qualname : Str} {scope : Scope} {Q : Value → Shared → Prop} (hc : env.code = .ref c) (hok : s.heap.IsCode c P ps) (htab : s.heap.TableAt c P ps)
    (hQ : ∀ code h' tk ps', Heap.ExtBut P s.heap h' → h'.IsCode c P ps' → h'.TableAt c P ps' → Q code { s with heap := h', toks := tk }) : wpAny M A (genexprCode env pos qualname scope) Q E s := by
  cases hnf : codeAmong pos ps.toList with
  | some cv => exact wpAny_genexprCode_hit hc hok hnf (hQ cv s.heap s.toks ps (Heap.ExtBut.refl _ _) hok htab)
  | none => exact wpAny_genexprCodeX hc hok htab hnf fun c' h' tk h1 _ _ h2 _ h3 _ => hQ _ h' tk _ h1 h2 h3
/-- the ledger behind a new code in the table -/
theorem tab_turn {G h h' : Heap} {L : Addr} {m : Str → Option Value} {news : Led1} {ps : Array Value} (F : Fr G L h m) (N : News G L h news) (T : TabIs news) (hk : Heap.ExtBut 389 h h') (hc : h'.IsCode 393 389 ps) (htb : h'.TableAt 393 389 ps) :
    Fr G L h' m ∧ ∃ news', News G L h' news' ∧ TabIs news' ∧ (∀ q ∈ news, @Ne Nat q.1 389 → q ∈ news') ∧ ∀ q ∈ news', q ∈ news ∨ q.1 = 389 := by
  obtain ⟨op, ps0, hm, hd, ht⟩ := T
  obtain ⟨_, _, _, _, _, _, _, _, _, op', _, _, _, _, _, _, _, g1, g2, g3, _⟩ := hc
  have g4 : op' = tabObj ps := Option.some.inj (g1.symm.trans htb.2)
  have n1 := (N _ hm).2
  refine ⟨⟨F.ns.at' fun o e => hk _ _ (fun z => n1.1 z.symm) e, fun b o e => hk b o (fun z => by rw [z] at e; rw [n1.2] at e; cases e) (F.keep b o e), F.above⟩,
    (((389 : Nat), op') : Addr × Obj) :: others (389 : Nat) news, fun q hq => ?_, ⟨op', ps, .head _, g2, g3, g4⟩, fun q hq hn => .tail _ (List.mem_filter.mpr ⟨hq, decide_eq_true hn⟩), fun q hq => ?_⟩
  · rcases List.mem_cons.mp hq with rfl | hq
    · exact ⟨g1, n1⟩
    · have := List.mem_filter.mp hq
      exact ⟨hk _ _ (of_decide_eq_true this.2) (N q this.1).1, (N q this.1).2⟩
  · rcases List.mem_cons.mp hq with rfl | hq
    · exact .inr rfl
    · exact .inl (List.mem_filter.mp hq).1
/-- a generator made over a tuple of the ledger -/
structure GenMade (prog : Program) (w : World) (G : Heap) (L : Addr) (m : Str → Option Value) (Ld : Led1) (M a I C GCa : Addr) (g : Nat) (s : Shared) (h' : Heap) (Ld' : Led1) (GC : Heap) : Prop where
  fl : Fr G L GC m
  fc : Fr GC C h' (fun y => if y = (".0" : Str) then some (.ref I) else none)
  ledger : News GC C h' Ld'
  tab : TabIs Ld'
  keep : ∀ q ∈ Ld, @Ne Nat q.1 389 → q ∈ Ld'
  back : ∀ q ∈ Ld', q ∈ Ld ∨ q.1 = 389
  iter : h'.IsTupleIter I M 0 ∧ GC.get? I = none ∧ @Ne Nat I C
  gen : h'.IsGen a g ∧ GC.get? a = none ∧ @Ne Nat a C
  apart : ∀ q ∈ Ld', @Ne Nat q.1 I ∧ @Ne Nat q.1 a
  ia : @Ne Nat I a
  top : h'.objs.size = a + 1
section
variable {prog : Program} {w : World} {A : Around} {E : Value → Shared → Prop} {Q : Value → Shared → Prop} {s : Shared} {G : Heap} {L M : Addr} {m mg mb : Str → Option Value} {Ld : Led1} {p : Program} {loose : List Str} {mean : ExcName → Option Value}
  {env : Env} {elt iter : PySem.Expr} {x : Str} {px pos : Pos} {scope : Scope} {cl : List (Str × Addr)} {ys : List Value} {n : Nat}
theorem gen_make_K (F : Fr G L s.heap m) (X : (K9 w.params).In G) (N : News G L s.heap Ld) (TT : Top p loose mean mg mb G) (T : TabIs Ld) (hM : (M, tupO ys n) ∈ Ld) (hlow : @LT.lt Nat _ 389 G.objs.size)
    (hco : scope.isCoroutine = false) (hclos : closureFor scope env = pure cl) (hcell : ∀ y ∈ scope.names, y.2 ≠ .cell) (h0 : scope.names.lookup (".0" : Str) = some NameKind.local) (hkind : scope.kind = .function) (hroom : A.depth < recursionLimit) (hs : ∀ x, genFold iter env x = pure x)
    (hcode : env.code = .ref 393) (hglob : env.globals = mainGlobals)
    (hit : ∀ (Q' : Value → Shared → Prop), (∀ tk, Q' (.ref M) { s with toks := tk }) → wpAny (model prog w) A (eval iter env) Q' E s)
    (h : ∀ a I C h' tk code Ld' GC, GenMade prog w G L m Ld M a I C C s.gens.size s h' Ld' GC → Q (.ref a) { s with heap := h', toks := tk, gens := s.gens.push (.fresh (.compStart (.GeneratorExp elt [⟨.Name x px, iter, [], 0⟩] scope pos) 0 (.ref I) .none (genEnv scope cl C code builtinsNs env))) }) :
    wpAny (model prog w) A (eval (.GeneratorExp elt [⟨.Name x px, iter, [], 0⟩] scope pos) env) Q E s := by
  refine wpAny_GeneratorExp_make hco hclos hcell h0 hkind hroom (hit _ fun tk => ?_) hs
  refine wpAny_pyIter_tuple (items := ys.toArray) ⟨_, (N _ hM).1, rfl, _, rfl⟩ ?_
  have F1 := F.push { cls := .type "tuple_iterator", data := .fields #[.ref M, .int 0 0] }
  have N1 := News.push F N { cls := .type "tuple_iterator", data := .fields #[.ref M, .int 0 0] } rfl
  have T1 : TabIs ((s.heap.objs.size, ({ cls := .type "tuple_iterator", data := .fields #[.ref M, .int 0 0] } : Obj)) :: Ld) := let ⟨op, ps, a, b⟩ := T; ⟨op, ps, .tail _ a, b⟩
  have hI389 : s.heap.objs.size ≠ 389 := fun e => by
    obtain ⟨op, _, hm, _⟩ := T
    have := Heap.lt_size (N _ hm).1
    rw [e] at this
    exact Nat.lt_irrefl _ this
  obtain ⟨ps, hic, hta⟩ := code393 X F1 N1 T1
  refine ⟨TT.nolimit.keeps F1.keep, genexprCode_T hcode hic hta fun code h2 tk2 ps' hk2 hic2 hta2 => ?_⟩
  obtain ⟨F2, Ld2, N2, T2, k2, b2⟩ := tab_turn F1 N1 T1 hk2 hic2 hta2
  obtain ⟨bm, ob, hbm⟩ := bmod_of_top TT
  have hbm2 := hbm.keeps (h' := h2) F2.keep
  obtain ⟨b1, b3, b4, b5, b6, b7, b8⟩ := hbm2
  rw [hglob]
  refine wpAny_builtinsFor b1 b3 b4 b5 b6 b7 b8 ?_
  intro h3 hn3 hs3
  have hsz : h3.objs.size = h2.objs.size + 1 := by rw [hs3.1]; exact Heap.size_push ..
  have up : ∀ b o, h2.get? b = some o → (h3.push { cls := .type "generator", data := .fields #[.int s.gens.size 0, .str "<genexpr>" (tk2 + 1), .str (env.qual ++ "<genexpr>") (tk2 + 1 + 1)] }).get? b = some o := fun b o e =>
    Heap.get?_push_of_some _ (hs3.extBut b o (Nat.ne_of_lt (Heap.lt_size e)) (Heap.get?_push_of_some _ e))
  have mI := k2 _ (.head _) hI389
  have hIC : @LT.lt Nat _ s.heap.objs.size h2.objs.size := Heap.lt_size (N2 _ mI).1
  have fl := ground_frame F2 N2
  have gsz : (groundOf h2 Ld2).objs.size = h2.objs.size := hideAll_size _ _
  have T3 : TabIs (others s.heap.objs.size Ld2) := let ⟨op, ps, a, b⟩ := T2; ⟨op, ps, List.mem_filter.mpr ⟨a, decide_eq_true (fun z => hI389 z.symm)⟩, b⟩
  refine h h3.objs.size s.heap.objs.size h2.objs.size _ _ code (others s.heap.objs.size Ld2) (groundOf h2 Ld2) ⟨fl, ⟨hn3.push _, fun b o e => up b o (of_hideAll _ e), Nat.le_of_eq gsz⟩, fun q hq => ?_, T3, fun q hq hn => ?_, fun q hq => ?_, ⟨?_, ?_, Nat.ne_of_lt hIC⟩, ⟨?_, ?_, ?_⟩, fun q hq => ⟨front_ne q hq, ?_⟩, ?_, Heap.size_push ..⟩
  · have hq2 := (List.mem_filter.mp hq).1
    exact ⟨up _ _ (N2 q hq2).1, Nat.ne_of_lt (Heap.lt_size (N2 q hq2).1), hideAll_none _ (List.mem_map_of_mem hq2)⟩
  · exact List.mem_filter.mpr ⟨k2 q (.tail _ hq) hn, decide_eq_true (Nat.ne_of_lt (Heap.lt_size (N q hq).1))⟩
  · obtain ⟨h4, h5⟩ := List.mem_filter.mp hq
    rcases b2 q h4 with h6 | h6
    · rcases List.mem_cons.mp h6 with rfl | h6
      · exact absurd rfl (of_decide_eq_true h5)
      · exact .inl h6
    · exact .inr h6
  · exact ⟨_, up _ _ (N2 _ mI).1, rfl, rfl⟩
  · exact hideAll_none _ (List.mem_map_of_mem mI)
  · exact ⟨_, _, _, Heap.get?_push_size _ rfl, rfl, rfl, rfl⟩
  · cases z : (groundOf h2 Ld2).get? h3.objs.size with
    | none => rfl
    | some o => exact absurd (Heap.lt_size z) (by rw [gsz, hsz]; exact Nat.not_lt.mpr (Nat.le_succ _))
  · rw [hsz]; exact Nat.succ_ne_self _
  · have := Heap.lt_size (N2 q (List.mem_filter.mp hq).1).1
    rw [hsz]; exact Nat.ne_of_lt (Nat.lt_succ_of_lt this)
  · rw [hsz]; exact Nat.ne_of_lt (Nat.lt_succ_of_lt hIC)
end
end VJ
end

section
open PySem PySem.W PyProof.Rows PySem.Calls
namespace VJ
set_option maxRecDepth 100000
theorem lookup_eraseIdx {K : Frag} {a : Addr} : ∀ (i : Nat) (l : Frag) (p : Addr × Obj), l[i]? = some p → a ≠ p.1 → (l.eraseIdx i).lookup a = l.lookup a
  | _, [], _, h, _ => by simp at h
  | 0, q :: l, p, h, hn => by
    simp only [List.getElem?_cons_zero, Option.some.injEq] at h
    subst h
    rw [List.eraseIdx_cons_zero, List.lookup_cons, beq_false_of_ne hn]
  | i + 1, q :: l, p, h, hn => by
    rw [List.eraseIdx_cons_succ, List.lookup_cons, List.lookup_cons, lookup_eraseIdx (K := K) i l p (by simpa using h) hn]
theorem k9_erase (P : Params) : K9 P = (hd.heap_39 P).eraseIdx 300 := by kernel_rfl
theorem k9_at (P : Params) : (hd.heap_39 P)[300]? = some ((389 : Nat), tabObj #[]) := by kernel_rfl
theorem k9_none (P : Params) : (K9 P).lookup 389 = none := by kernel_rfl
theorem k9_tab (P : Params) : (hd.heap_39 P).lookup 389 = some (tabObj #[]) := by kernel_rfl
theorem k9_of {w : World} {h : Heap} (X : (hd.heap_39 w.params).In h) : (K9 w.params).In h := fun a o e => by
  have hn : a ≠ (389 : Nat) := fun z => by rw [z, k9_none] at e; cases e
  rw [k9_erase, lookup_eraseIdx (K := []) 300 _ _ (k9_at _) hn] at e
  exact X a o e
theorem tabs_of {w : World} {h : Heap} (X : (hd.heap_39 w.params).In h) : TabsAt [((393 : Nat), (389 : Nat))] h := fun q hq => by
  rw [List.mem_singleton.mp hq]
  exact ⟨codeHd_of_K X (by kernel_rfl), X _ _ (k9_tab _)⟩
theorem k9_ghost {w : World} {h : Heap} (X : (hd.heap_39 w.params).In h) : (K9 w.params).In (ghostOf h [((393 : Nat), (389 : Nat))]) := fun a o e =>
  ghost_ne (k9_of X a o e) fun q => by
    have z : a = (389 : Nat) := List.mem_singleton.mp q
    rw [z, k9_none] at e; cases e
/-- what is asked of the law, the generator's table grown -/
theorem post_of {M : Model} {A : Around} {cd : Code} {s s₁ : Shared} {cw : ClaimW} {cl : Str → Option Addr} {mean : ExcName → Option Value} {args : List WData} (hT : TabsAt [((393 : Nat), (389 : Nat))] s₁.heap) (hr : ∀ a x, cw.raises a x = false) (hp : cw.post args (.bool true) args = true)
    (h : codeAny M A cd (fun r s' => r = .ok (.ret (.bool true)) ∧ (∀ b o, (ghostOf s₁.heap [((393 : Nat), (389 : Nat))]).get? b = some o → s'.heap.get? b = some o) ∧ s'.os = s₁.os ∧ AllBare s'.gens ∧ ∃ ps, s'.heap.get? (389 : Nat) = some (tabObj ps)) s) : codeAny M A cd (GoodWG cw cl mean args s₁) s :=
  codeAny_mono h fun r s' ⟨hv, hk, hos, hg, ps, hP⟩ => by
    subst hv
    have e2 := (hT _ (.head _)).2
    have ht := ((hT _ (.head _)).1.tab e2).isCodeTable
    refine ⟨.inl ⟨.bool true, .bool true, [], rfl, fun _ => hr _ _, .bool _, hp, fun _ => ⟨List.nodup_nil, fun a ha => nomatch ha⟩⟩, ⟨fun b o e => ?_, fun b o e => ?_⟩, hos, hg⟩
    · by_cases hb : b = (389 : Nat)
      · subst hb
        rw [e] at e2
        cases Option.some.inj e2
        exact .inr (.inl ⟨ht, rfl, #[], ps, rfl, by rw [Array.empty_append]; exact hP⟩)
      · exact .inl (hk b o (ghost_ne e fun q => hb (List.mem_singleton.mp q)))
    · by_cases hb : b = (389 : Nat)
      · subst hb; exact ⟨_, hP⟩
      · exact ⟨o, hk b o (ghost_ne e fun q => hb (List.mem_singleton.mp q))⟩
end VJ
end

section
open PySem PySem.W PyProof.Rows PySem.Calls PySem.Spec PyProof.V
namespace VJ
set_option maxRecDepth 100000
theorem fillRes3 : K9 = K9 ∧ PySem.Challenge.rw_vj0024_01 = PySem.Challenge.rw_vj0024_01 := by
  k_fill
  exact ⟨rfl, rfl⟩
abbrev gcOf (elt iter : PySem.Expr) (x : Str) (px : Pos) (scope : Scope) (pos : Pos) (I : Addr) (cenv : Env) : Code := .compLoop (.GeneratorExp elt [⟨.Name x px, iter, [], 0⟩] scope pos) 0 (.ref I) .none cenv
theorem over_frames {A : Around} {l : List Env} (h : A.frames = some l) (elt iter : PySem.Expr) (x : Str) (px : Pos) (scope : Scope) (pos : Pos) (I : Addr) (cenv : Env) : (A.over (gcOf elt iter x px scope pos I cenv) []).frames = some (cenv :: l) := by
  simp only [Around.over]; rw [h]; rfl
theorem over_depth {A : Around} (elt iter : PySem.Expr) (x : Str) (px : Pos) (scope : Scope) (pos : Pos) (I : Addr) (cenv : Env) : (A.over (gcOf elt iter x px scope pos I cenv) []).depth = A.depth + 1 := rfl
theorem over_units {A : Around} (elt iter : PySem.Expr) (x : Str) (px : Pos) (scope : Scope) (pos : Pos) (I : Addr) (cenv : Env) : (A.over (gcOf elt iter x px scope pos I cenv) []).units = A.units + 3 := rfl
/-- the invariant of the generator over the members -/
def GJ (GC : Heap) (C I M a : Addr) (g : Nat) (S : Addr) (gens0 : Array GenState) (d0 : Drawn) (os0 : OsState) (Inv : Nat → Led1 → Prop) (i : Nat) (s : Shared) : Prop :=
  ∃ Ld mC, Fr GC C s.heap mC ∧ News GC C s.heap Ld ∧ Inv i Ld ∧ (∀ q ∈ Ld, @Ne Nat q.1 I ∧ @Ne Nat q.1 a ∧ @Ne Nat q.1 S) ∧ s.heap.IsTupleIter I M i ∧ s.heap.IsGen a g ∧ (∃ oS, s.heap.get? S = some oS) ∧
    (g < s.gens.size ∧ (∀ j, j < g → s.gens[j]? = gens0[j]?) ∧ ∀ j x, g < j → s.gens[j]? = some x → x.bare = true) ∧ s.drawn = d0 ∧ s.os = os0
section
variable {prog : Program} {w : World} {GC : Heap} {C I M a S : Addr} {g : Nat} {gens0 : Array GenState} {d0 : Drawn} {os0 : OsState} {Inv : Nat → Led1 → Prop} {i : Nat} {s s' : Shared}
theorem GJ.like (hS : GC.get? S = none) (hC : @Ne Nat S C) (hI : @Ne Nat S I) (ha : @Ne Nat S a) (h : GJ GC C I M a g S gens0 d0 os0 Inv i s) (l : Like S g s s') : GJ GC C I M a g S gens0 d0 os0 Inv i s' := by
  obtain ⟨Ld, mC, F, N, h1, h2, h3, h4, hal, ⟨h5, h6, h7⟩, h8, h9⟩ := h
  refine ⟨Ld, mC, ⟨F.ns.at' fun o e => l.heap _ _ (Ne.symm hC) e, fun b o e => l.heap b o (fun z => by rw [z, hS] at e; cases e) (F.keep b o e), F.above⟩, fun q hq => ⟨l.heap _ _ (h2 q hq).2.2 (N q hq).1, (N q hq).2⟩, h1, h2, ?_, ?_, l.alive hal, ⟨by rw [l.gsize]; exact h5, fun j hj => (l.gens j (by omega)).trans (h6 j hj), fun j x hj e => h7 j x hj ((l.gens j (by omega)).symm.trans e)⟩, l.drawn.trans h8, l.os.trans h9⟩
  · obtain ⟨o, e, r⟩ := h3; exact ⟨o, l.heap _ _ (Ne.symm hI) e, r⟩
  · obtain ⟨o, nm, qn, e, r⟩ := h4; exact ⟨o, nm, qn, l.heap _ _ (Ne.symm ha) e, r⟩
end
section
variable {prog : Program} {w : World} {A₁ A : Around} {GC base : Heap} {C I M a S cc rm : Addr} {g : Nat} {gens0 : Array GenState} {d0 : Drawn} {os0 : OsState} {Inv : Nat → Led1 → Prop} {env : Env} {outer : List Env} {p : Program} {loose : List Str} {mean : ExcName → Option Value} {mg mb : Str → Option Value}
  {iter : PySem.Expr} {p1 p2 p3 p4 pm pos : Pos} {scope : Scope} {cl : List (Str × Addr)} {code : Value} {ys vals : List Value} {dn un : Nat}
/-- what the element does: m.resolve_refs(rule_map) -/
abbrev eltOf (p1 p2 p3 p4 : Pos) : PySem.Expr := .Call (.Attribute (.Name (Str.ofString "m") p1) (Str.ofString "resolve_refs") p2) [.Name (Str.ofString "rule_map") p3] [] p4
theorem turns_K (hh : A.handled = none) (B : Below A₁ base outer GC) (X : (K9 w.params).In GC) (TT : Top p loose mean mg mb GC) (hA : A.frames = some outer) (hd : A.depth + 1 + dn < recursionLimit) (hu : A.units + 3 + un < cLine)
    (hkm : scope.names.lookup (Str.ofString "m") = some .local) (hkr : scope.names.lookup (Str.ofString "rule_map") = some .free) (hkind : scope.kind = .function) (hco : scope.isCoroutine = false) (hcl : cl.lookup (Str.ofString "rule_map") = some cc)
    (hM : ∀ i Ld, Inv i Ld → ∃ n, (M, tupO ys n) ∈ Ld) (hcell : ∀ i Ld, Inv i Ld → ∃ o : Obj, (cc, o) ∈ Ld ∧ o.data = .cell (some (.ref rm))) (hlen : ys.length = vals.length)
    (he : ∃ pl : Sem Bool, eval (eltOf p1 p2 p3 p4) (genEnv scope cl C code builtinsNs env) = (do
      let ov ← eval (.Name (Str.ofString "m") p1) (genEnv scope cl C code builtinsNs env)
      standAt p2.atName
      let (f, first) ← holding [ov] (getMethod ov (Str.ofString "resolve_refs") pl)
      callWith p4 f first (backTo p4 (starEach [.Name (Str.ofString "rule_map") p3] (genEnv scope cl C code builtinsNs env))) []))
    (hel : ∀ i y v, ys[i]? = some y → vals[i]? = some v → ∀ Ld, Inv i Ld → ∃ fn, keepIn (K9 w.params) (.ref fn) = true ∧
      (∀ {A E Q s m pl}, Fr GC C s.heap m → News GC C s.heap Ld → Q (.ref fn, [y]) s → wpAny (model prog w) A (getMethod y (Str.ofString "resolve_refs") pl) Q E s) ∧ ToldG prog w fn [y, .ref rm] dn un Ld (fun r Ld' => r = v ∧ Inv (i + 1) Ld'))
    (hS : GC.get? S = none) (hSC : @Ne Nat S C) (hSI : @Ne Nat S I) (hSa : @Ne Nat S a) (hI : GC.get? I = none ∧ @Ne Nat I C) (ha : GC.get? a = none ∧ @Ne Nat a C) (hIa : @Ne Nat I a) :
    Turns prog w A (eltOf p1 p2 p3 p4) iter (Str.ofString "m") pm scope pos I (genEnv scope cl C code builtinsNs env) S g vals (GJ GC C I M a g S gens0 d0 os0 Inv)
      (fun s' => ∃ Ld mC, Fr GC C s'.heap mC ∧ News GC C s'.heap Ld ∧ Inv vals.length Ld ∧ (g < s'.gens.size ∧ (∀ j, j < g → s'.gens[j]? = gens0[j]?) ∧ ∀ j x, g < j → s'.gens[j]? = some x → x.bare = true) ∧ s'.drawn = d0 ∧ s'.os = os0) where
  hh := hh
  kx := hkm
  kk := by simp [genEnv, hkind]
  kc := hco
  like i s s' h l := h.like hS hSC hSI hSa l
  lim i s h := let ⟨_, _, F, _⟩ := h; TT.nolimit.keeps F.keep
  item i s y hy h := by
    obtain ⟨Ld, mC, F, N, hInv, hap, hit, hgen, ⟨oS, hoS⟩, ⟨hg1, hg2, hg3⟩, hd0, ho0⟩ := h
    have hlt : i < ys.length := by rw [hlen]; exact (List.getElem?_eq_some_iff.mp hy).1
    obtain ⟨x, hx⟩ : ∃ x, ys[i]? = some x := ⟨ys[i], List.getElem?_eq_getElem hlt⟩
    obtain ⟨n, hMm⟩ := hM i Ld hInv
    refine wpAny_pyNext_tuple_item hit (items := ys.toArray) ⟨_, (N _ hMm).1, rfl, _, rfl⟩ (by simpa using hx) fun h2 hit2 sb2 => ?_
    refine ⟨x, rfl, ?_⟩
    have F2 : Fr GC C h2 mC := F.change sb2 hI.2 hI.1
    refine wpAny_storeName_local hkm F2.ns (fun h3 hn3 sb3 => ?_) (by simp [genEnv, hkind])
    have F3 : Fr GC C h3 (fun y => if y = Str.ofString "m" then some x else mC y) := ⟨hn3, fun b o e => (sb3.2 b (fun z => by have z' : b = C := z; rw [z', kts_self F2] at e; cases e)).trans (F2.keep b o e), F2.above⟩
    have nI : ∀ q ∈ Ld, h2.get? q.1 = some q.2 := fun q hq => (sb2.2 q.1 (hap q hq).1).trans (N q hq).1
    have N3 : News GC C h3 Ld := fun q hq => ⟨(sb3.2 q.1 (N q hq).2.1).trans (nI q hq), (N q hq).2⟩
    have hit3 : h3.IsTupleIter I M (i + 1) := let ⟨o, e, r⟩ := hit2; ⟨o, (sb3.2 I hI.2).trans e, r⟩
    have hgen3 : h3.IsGen a g := let ⟨o, nm, qn, e, r⟩ := hgen; ⟨o, nm, qn, (sb3.2 a ha.2).trans ((sb2.2 a (Ne.symm hIa)).trans e), r⟩
    have hS3 : ∀ o, s.heap.get? S = some o → h3.get? S = some o := fun o e => (sb3.2 S hSC).trans ((sb2.2 S hSI).trans e)
    obtain ⟨oI, hoI, rI⟩ := id hit3
    obtain ⟨oa, nma, qna, hoa, ra⟩ := id hgen3
    obtain ⟨fn, hkp, hmeth, hT⟩ := hel i x y hx hy Ld hInv
    obtain ⟨oc, hmc, hdc⟩ := hcell i Ld hInv
    obtain ⟨pl, he⟩ := he
    refine MethodCall_ (he := he) ?_
    refine wpAny_Name (wpAny_loadName_local hkind hkm F3.ns (if_pos rfl) ?_) (by decide)
    refine hmeth F3 N3 ?_
    refine callWith_K X hkp ?_
    show wpAny _ _ (spliced [(false, eval (.Name (Str.ofString "rule_map") p3) _)]) _ _ _
    unfold spliced
    refine wpAny_bind (wpAny_Name (wpAny_loadName_free hkind hkr hcl ⟨_, (N3 _ hmc).1, hdc⟩ ?_) (by decide))
    dsimp only
    rw [if_neg Bool.false_ne_true]
    refine wpAny_bind (wpAny_pure (wpAny_bind (wpAny_holding ?_)))
    show wpAny _ _ (pure []) _ _ _
    refine wpAny_pure (wpAny_pure ⟨X.keeps F3.keep, ?_⟩)
    show wpAny _ _ (call (.ref fn) [x, .ref rm]) _ _ _
    refine toldG_use (xs := [(I, oI), (a, oa), (S, oS)]) hT B F3 X (fun q hq => ?_) TT (over_frames hA ..) rfl hkind hh (by rw [over_depth]; omega) (by rw [over_units]; omega) (fun q hq r hr e => ?_) ?_
    · rcases List.mem_cons.mp hq with rfl | hq
      · exact ⟨hoI, hI.2, hI.1⟩
      rcases List.mem_cons.mp hq with rfl | hq
      · exact ⟨hoa, ha.2, ha.1⟩
      rcases List.mem_cons.mp hq with rfl | hq
      · exact ⟨hS3 _ hoS, hSC, hS⟩
      · exact N3 q hq
    · rcases List.mem_cons.mp hq with rfl | hq
      · exact (hap r hr).1 e.symm
      rcases List.mem_cons.mp hq with rfl | hq
      · exact (hap r hr).2.1 e.symm
      · rw [List.mem_singleton.mp hq] at e; exact (hap r hr).2.2 e.symm
    · rintro r Ld' h4 tk4 gs4 F4 N4 ap4 go ⟨rfl, hInv'⟩ hkeep
      have NI := N4 (I, oI) (.head _)
      have Na := N4 (a, oa) (.tail _ (.head _))
      refine ⟨rfl, ⟨Ld', _, F4, fun q hq => N4 q (.tail _ (.tail _ (.tail _ hq))), hInv', fun q hq => ⟨fun z => ap4 _ (.head _) q hq z.symm, fun z => ap4 _ (.tail _ (.head _)) q hq z.symm, fun z => ap4 _ (.tail _ (.tail _ (.head _))) q hq z.symm⟩, ⟨oI, NI.1, rI⟩, ⟨oa, nma, qna, Na.1, ra⟩, ⟨oS, (N4 (S, oS) (.tail _ (.tail _ (.head _)))).1⟩, ⟨Nat.lt_of_lt_of_le hg1 go.size, fun j hj => (go.old j (Nat.lt_trans hj hg1)).trans (hg2 j hj), fun j z hj e => ?_⟩, hd0, ho0⟩, fun o e => hkeep _ _ (hS3 o e) fun q hq => (hap q hq).2.2⟩
      · by_cases hjs : j < s.gens.size
        · exact hg3 j z hj ((go.old j hjs).symm.trans e)
        · exact go.bare j z (Nat.le_of_not_lt hjs) e
  done s h := by
    obtain ⟨Ld, mC, F, N, hInv, hap, hit, hgen, _, hg, hd0, ho0⟩ := h
    obtain ⟨n, hMm⟩ := hM _ Ld hInv
    refine wpAny_pyNext_tuple_end hh hit (items := ys.toArray) ⟨_, (N _ hMm).1, rfl, _, rfl⟩ (by simp [hlen]) fun h2 eb2 => ?_
    refine ⟨rfl, ⟨Ld, mC, ⟨F.ns.at' fun o e => eb2 _ _ (Ne.symm hI.2) e, fun b o e => eb2 b o (fun z => by rw [z, hI.1] at e; cases e) (F.keep b o e), F.above⟩, fun q hq => ⟨eb2 _ _ (hap q hq).1 (N q hq).1, (N q hq).2⟩, hInv, hg, hd0, ho0⟩, fun o e => eb2 _ _ hSI e⟩
end
end VJ
end

section
open PySem PySem.W PyProof.Rows PySem.Calls PySem.Spec PyProof.V
namespace VJ
set_option maxRecDepth 100000
theorem fillRes4 : K9 = K9 ∧ PySem.Challenge.rw_vj0024_01 = PySem.Challenge.rw_vj0024_01 := by
  k_fill
  exact ⟨rfl, rfl⟩
section
variable {prog : Program} {w : World} {A₁ A : Around} {G GC base : Heap} {L C I M a cc rm : Addr} {m : Str → Option Value} {Inv : Nat → Led1 → Prop} {env : Env} {outer : List Env} {p : Program} {loose : List Str} {mean : ExcName → Option Value} {mg mb : Str → Option Value}
  {iter : PySem.Expr} {p1 p2 p3 p4 pm pos : Pos} {scope : Scope} {cl : List (Str × Addr)} {code : Value} {ys vals : List Value} {dn un : Nat} {Ld Ld' : Led1} {s : Shared} {h' : Heap} {tk : Nat} {E Q : Value → Shared → Prop} {GCa : Addr}
theorem gen_drain_K (GM : GenMade prog w G L m Ld M a I C GCa s.gens.size s h' Ld' GC) (hh : A.handled = none) (B : Below A₁ base outer G) (hf : env.frame = some L) (hke : env.scope.kind = .function) (X : (K9 w.params).In G) (TT : Top p loose mean mg mb G) (hA : A.frames = some (env :: outer)) (hd : A.depth + 1 + dn < recursionLimit) (hu : A.units + 10 + un < cLine)
    (hkm : scope.names.lookup (Str.ofString "m") = some .local) (hkr : scope.names.lookup (Str.ofString "rule_map") = some .free) (hkind : scope.kind = .function) (hco : scope.isCoroutine = false) (hcl : cl.lookup (Str.ofString "rule_map") = some cc)
    (hM : ∀ i Ld, Inv i Ld → ∃ n, (M, tupO ys n) ∈ Ld) (hcell : ∀ i Ld, Inv i Ld → ∃ o : Obj, (cc, o) ∈ Ld ∧ o.data = .cell (some (.ref rm))) (hlen : ys.length = vals.length)
    (he : ∃ pl : Sem Bool, eval (eltOf p1 p2 p3 p4) (genEnv scope cl C code builtinsNs env) = (do
      let ov ← eval (.Name (Str.ofString "m") p1) (genEnv scope cl C code builtinsNs env)
      standAt p2.atName
      let (f, first) ← holding [ov] (getMethod ov (Str.ofString "resolve_refs") pl)
      callWith p4 f first (backTo p4 (starEach [.Name (Str.ofString "rule_map") p3] (genEnv scope cl C code builtinsNs env))) []))
    (hel : ∀ i y v, ys[i]? = some y → vals[i]? = some v → ∀ Ld, Inv i Ld → ∃ fn, keepIn (K9 w.params) (.ref fn) = true ∧
      (∀ {A E Q s m pl}, Fr GC C s.heap m → News GC C s.heap Ld → Q (.ref fn, [y]) s → wpAny (model prog w) A (getMethod y (Str.ofString "resolve_refs") pl) Q E s) ∧ ToldG prog w fn [y, .ref rm] dn un Ld (fun r Ld' => r = v ∧ Inv (i + 1) Ld'))
    (hInv : Inv 0 Ld') (hsz : vals.length ≤ sizeLine)
    (hQ : ∀ t h2 tk2 gs Ld2 n, Fr G L h2 m → News G L h2 ((t, tupO vals n) :: Ld2) → (∀ q ∈ Ld2, @Ne Nat q.1 t) → Inv vals.length Ld2 → GensOk s.gens gs → Q (.ref t) { s with heap := h2, toks := tk2, gens := gs }) :
    wpAny (model prog w) A (call (.type "tuple") [.ref a]) Q E { s with heap := h', toks := tk, gens := s.gens.push (.fresh (.compStart (.GeneratorExp (eltOf p1 p2 p3 p4) [⟨.Name (Str.ofString "m") pm, iter, [], 0⟩] scope pos) 0 (.ref I) .none (genEnv scope cl C code builtinsNs env))) } := by
  have kG := GM.fl.keep
  have XC : (K9 w.params).In GC := Frag.In.keeps X kG
  have TC := TT.keeps kG
  have BC : Below A base (env :: outer) GC := by
    refine ⟨hA, fun b o e => kG b o (B.stays b o e), ?_⟩
    obtain ⟨oL, es, ep, hLg, hLr⟩ := GM.fl.ns
    have nb : base.get? L = none := by
      cases q : base.get? L with
      | none => rfl
      | some o => exact absurd (Nat.lt_of_lt_of_le (Heap.lt_size (B.stays L o q)) GM.fl.above) (Nat.lt_irrefl _)
    exact .cons (by rw [hke]; decide) hf GM.fl.ns nb (B.frames.of_keeps fun b o e _ => ⟨o, kG b o e, rfl⟩)
  have hSz : ∀ b o, h'.get? b = some o → @Ne Nat h'.objs.size b := fun b o e z => absurd (Heap.lt_size e) (by rw [← z]; exact Nat.lt_irrefl _)
  have hS : GC.get? h'.objs.size = none := by
    cases z : GC.get? h'.objs.size with
    | none => rfl
    | some o => exact absurd rfl (hSz _ _ (GM.fc.keep _ _ z))
  obtain ⟨oC, eC, pC, gC, rC⟩ := GM.fc.ns
  obtain ⟨oI, gI, rI⟩ := GM.iter.1
  obtain ⟨oa, nma, qna, ga, ra⟩ := GM.gen.1
  have W := turns_K (A := A.in1.in1.in1.in1) (S := h'.objs.size) (g := s.gens.size) (gens0 := s.gens) (d0 := s.drawn) (os0 := s.os) (Inv := Inv) (p1 := p1) (p2 := p2) (p3 := p3) (p4 := p4) (pm := pm) (pos := pos) (iter := iter) (code := code) hh BC XC TC hA hd (by show A.units + 1 + 1 + 1 + 1 + 3 + un < cLine; omega) hkm hkr hkind hco hcl hM hcell hlen he hel hS (hSz _ _ gC) (hSz _ _ gI) (hSz _ _ ga) ⟨GM.iter.2.1, GM.iter.2.2⟩ ⟨GM.gen.2.1, GM.gen.2.2⟩ GM.ia
  have D := drain_gen (A := A.in1.in1.in1) W hh (by show A.depth < recursionLimit; omega) (fun i s ⟨_, _, _, _, _, _, _, hg, _⟩ => hg) (fun i s ⟨_, _, _, _, _, _, _, _, _, hg, _⟩ => hg.1) (hSz _ _ ga)
  refine drain_tuple D GM.gen.1.typeIs (fun h2 hk2 hz2 hal2 => ?_) (fun s' vs hl hf => ?_) hsz
  · have hJ : ∀ s'' : Shared, Like h'.objs.size s.gens.size { s with heap := h2, toks := tk, gens := s.gens.push (.fresh (.compStart (.GeneratorExp (eltOf p1 p2 p3 p4) [⟨.Name (Str.ofString "m") pm, iter, [], 0⟩] scope pos) 0 (.ref I) .none (genEnv scope cl C code builtinsNs env))) } s'' → GJ GC C I M a s.gens.size h'.objs.size s.gens s.drawn s.os Inv 0 s'' := fun s'' hl => by
      have h0 : GJ GC C I M a s.gens.size h'.objs.size s.gens s.drawn s.os Inv 0 ({ s with heap := h2, toks := tk, gens := s.gens.push (.fresh (.compStart (.GeneratorExp (eltOf p1 p2 p3 p4) [⟨.Name (Str.ofString "m") pm, iter, [], 0⟩] scope pos) 0 (.ref I) .none (genEnv scope cl C code builtinsNs env))) } : Shared) := by
       refine ⟨Ld', _, ⟨GM.fc.ns.at' fun o e => hk2 _ _ e, fun b o e => hk2 b o (GM.fc.keep b o e), GM.fc.above⟩, fun q hq => ⟨hk2 _ _ (GM.ledger q hq).1, (GM.ledger q hq).2⟩, hInv, fun q hq => ⟨(GM.apart q hq).1, (GM.apart q hq).2, fun z => hSz _ _ (GM.ledger q hq).1 z.symm⟩, ⟨oI, hk2 _ _ gI, rI⟩, ⟨oa, nma, qna, hk2 _ _ ga, ra⟩, hal2, ⟨?_, fun j hj => ?_, fun j x hj e => ?_⟩, rfl, rfl⟩
       · show _ < (s.gens.push _).size; simp
       · show (s.gens.push _)[j]? = _
         rw [Array.getElem?_push_lt hj, Array.getElem?_eq_getElem hj]
       · have := (Array.getElem?_eq_some_iff.mp e).1
         have h3 : j < (s.gens.push (GenState.fresh (.compStart (.GeneratorExp (eltOf p1 p2 p3 p4) [⟨.Name (Str.ofString "m") pm, iter, [], 0⟩] scope pos) 0 (.ref I) .none (genEnv scope cl C code builtinsNs env)))).size := this
         simp at h3
         omega
      exact GJ.like hS (hSz _ _ gC) (hSz _ _ gI) (hSz _ _ ga) h0 hl
    refine ⟨rfl, hJ _ (Like.refl ..), _, Array.getElem?_push_size, fun s'' hl => ⟨rfl, seg_start W (fun s Q hj hq => ?_) s'' (hJ s'' hl)⟩⟩
    obtain ⟨_, _, _, _, _, _, hit, _⟩ := hj
    exact wpAny_pyIter_tupleiter hit hq
  · obtain ⟨rfl, s₁, ⟨Ld2, mC, F2, N2, hI2, ⟨hg1, hg2, hg3⟩, hd2, ho2⟩, h3, hk3, rfl⟩ := hf
    have FG : Fr G L h3 m := ⟨GM.fl.ns.at' fun o e => hk3 _ _ (F2.keep _ _ e), fun b o e => hk3 _ _ (F2.keep _ _ (kG b o e)), GM.fl.above⟩
    have gL : ∃ o, GC.get? L = some o := let ⟨oL, _, _, gL, _⟩ := GM.fl.ns; ⟨oL, gL⟩
    obtain ⟨oL, gL⟩ := gL
    have NG : News G L h3 Ld2 := fun q hq => by
      have hn := (N2 q hq).2.2
      refine ⟨hk3 _ _ (N2 q hq).1, fun z => ?_, ?_⟩
      · rw [z, gL] at hn; cases hn
      · cases z : G.get? q.1 with
        | none => rfl
        | some o => rw [kG _ _ z] at hn; cases hn
    have e1 : ({ s₁.setGen s.gens.size .finished with heap := h3.push { cls := .type "tuple", data := .seq vs.toArray } } : Shared) = { s with heap := h3.push { cls := .type "tuple", data := .seq vs.toArray }, toks := s₁.toks, gens := (s₁.setGen s.gens.size .finished).gens } := by
      show (⟨_, _, s₁.drawn, s₁.toks, s₁.os⟩ : Shared) = ⟨_, _, s.drawn, s₁.toks, s.os⟩
      rw [hd2, ho2]
    show Q _ ({ s₁.setGen s.gens.size .finished with heap := h3.push { cls := .type "tuple", data := .seq vs.toArray } } : Shared)
    rw [e1]
    refine hQ _ _ _ _ Ld2 0 (FG.push { cls := .type "tuple", data := .seq vs.toArray }) (News.push FG NG { cls := .type "tuple", data := .seq vs.toArray } rfl) (fun q hq => Nat.ne_of_lt (Heap.lt_size (NG q hq).1)) hI2 ⟨?_, fun j hj => ?_, fun j x hj e => ?_⟩
    · simp [Shared.setGen]; omega
    · simp only [Shared.setGen]
      rw [Array.getElem?_setIfInBounds_ne (by omega)]
      exact hg2 j hj
    · simp only [Shared.setGen] at e
      by_cases hj2 : s.gens.size = j
      · subst hj2
        rw [Array.getElem?_setIfInBounds_self_of_lt hg1] at e
        cases e; rfl
      · rw [Array.getElem?_setIfInBounds_ne hj2] at e
        exact hg3 j x (by omega) e
end
end VJ
end

section
open PySem PySem.W PyProof.Rows PySem.Calls PySem.Spec PyProof.V
namespace VJ
set_option maxRecDepth 100000
theorem fillRes5 : K9 = K9 ∧ PySem.Challenge.rw_vj0024_01 = PySem.Challenge.rw_vj0024_01 := by
  k_fill
  exact ⟨rfl, rfl⟩
theorem rr_key {w : World} (C f : Addr) (h : (C = (367 : Nat) ∧ f = (274 : Nat)) ∨ (C = (425 : Nat) ∧ f = (394 : Nat)) ∨ (C = (451 : Nat) ∧ f = (394 : Nat)) ∨ (C = (489 : Nat) ∧ f = (394 : Nat)) ∨ (C = (528 : Nat) ∧ f = (394 : Nat)) ∨ (C = (556 : Nat) ∧ f = (546 : Nat))) :
      plainGet (K9 w.params) C (Str.ofString "resolve_refs") = true ∧ findIn (K9 w.params) (.ref C) (Str.ofString "resolve_refs") = some (some (.ref f)) ∧ isFn (K9 w.params) (.ref f) = true ∧ keepIn (K9 w.params) (.ref f) = true := by
    rcases h with (⟨rfl, rfl⟩ | ⟨rfl, rfl⟩ | ⟨rfl, rfl⟩ | ⟨rfl, rfl⟩ | ⟨rfl, rfl⟩ | ⟨rfl, rfl⟩) <;> exact ⟨by k_is, by k_is, by k_is, by k_is⟩
section
variable {prog : Program} {w : World} {A : Around} {E : Value → Shared → Prop} {s : Shared} {h₀ : Heap} {L a d C f : Addr} {m : Str → Option Value} {news : List (Addr × Obj)} {sl : Array (Option Value)} {n : Nat} {x : Str} {t : Tok}
theorem rr_K {pl : Sem Bool} {Q : Value × List Value → Shared → Prop} (F : Fr h₀ L s.heap m) (X : (K9 w.params).In h₀) (N : News h₀ L s.heap news) (h1 : (a, (⟨.ref C, some d, .plain, sl⟩ : Obj)) ∈ news) (h2 : (d, dictOf [] n) ∈ news)
    (hc : (C = (367 : Nat) ∧ f = (274 : Nat)) ∨ (C = (425 : Nat) ∧ f = (394 : Nat)) ∨ (C = (451 : Nat) ∧ f = (394 : Nat)) ∨ (C = (489 : Nat) ∧ f = (394 : Nat)) ∨ (C = (528 : Nat) ∧ f = (394 : Nat)))
    (h : Q (.ref f, [.ref a]) s) : wpAny (model prog w) A (getMethod (.ref a) (Str.ofString "resolve_refs") pl) Q E s := by
  have I : InstAt s.heap a _ C _ := InstAt.of_news N h1 h2
  obtain ⟨k1, k2, k3, _⟩ := rr_key (w := w) C f (by rcases hc with h | h | h | h | h <;> simp [h])
  exact method_inst F X I k1 k2 k3 (by rfl) h
theorem rrLazy_K {pl : Sem Bool} {Q : Value × List Value → Shared → Prop} (F : Fr h₀ L s.heap m) (X : (K9 w.params).In h₀) (N : News h₀ L s.heap news) (h1 : (a, lazyObj d x t) ∈ news) (h2 : (d, dictOf [] n) ∈ news)
    (h : Q (.ref 546, [.ref a]) s) : wpAny (model prog w) A (getMethod (.ref a) (Str.ofString "resolve_refs") pl) Q E s := by
  have I : InstAt s.heap a (lazyObj d x t) 556 (some (dictOf [] n)) := ⟨(N _ h1).1, rfl, rfl, (N _ h2).1⟩
  obtain ⟨k1, k2, k3, _⟩ := rr_key (w := w) 556 546 (by simp)
  exact method_inst F X I k1 k2 k3 (by rfl) h
end
end VJ
end

section
open PySem PySem.W PyProof.Rows PySem.Calls PySem.Spec PyProof.V
namespace VJ
set_option maxRecDepth 100000
theorem fillRes6 : K9 = K9 ∧ PySem.Challenge.rw_vj0024_01 = PySem.Challenge.rw_vj0024_01 := by
  k_fill
  exact ⟨rfl, rfl⟩
/-- the slots of a compound piece around its members -/
inductive MSlot : Addr → (Value → Array (Option Value)) → Prop
  | choice (i n : Value) : MSlot 451 fun v => #[some v, some i, some n]
  | chain (i n : Value) : MSlot 425 fun v => #[some v, some i, some n]
  | look (g i n : Value) : MSlot 489 fun v => #[some g, some v, some i, some n]
  | many (a b i n : Value) : MSlot 528 fun v => #[some a, some b, some v, some i, some n]
section
variable {prog : Program} {w : World} {A : Around} {E : Value → Shared → Prop} {s : Shared} {h₀ : Heap} {L x d C M M2 : Addr} {m : Str → Option Value} {news news' : List (Addr × Obj)} {sl : Value → Array (Option Value)} {n : Nat}
theorem memb_get {expr : Bool} {Q : Value → Shared → Prop} (F : Fr h₀ L s.heap m) (X : (K9 w.params).In h₀) (N : News h₀ L s.heap news) (hs : MSlot C sl) (h1 : (x, exprO C d (sl (.ref M))) ∈ news) (h2 : (d, dictOf [] n) ∈ news)
    (h : ∀ tk, Q (.ref M) { s with toks := tk }) : wpAny (model prog w) A (getAttr (.ref x) (Str.ofString "members") expr) Q E s := by
  have I : InstAt s.heap x _ C _ := InstAt.of_news N h1 h2
  cases hs <;>
  · refine' get_slot F X I ?k4 ?k5 ?k6 ?k7 ?k8 ?k9 ?k10 ?k11 (h _)
    case k4 => k_is
    case k5 => k_is
    case k6 => k_is
    case k7 => k_is
    case k8 => k_is
    case k9 => k_is
    case k10 => rfl
    case k11 => rfl
theorem memb_set {Q : Unit → Shared → Prop} (F : Fr h₀ L s.heap m) (X : (K9 w.params).In h₀) (N : News h₀ L s.heap news) (hs : MSlot C sl) (h1 : (x, exprO C d (sl (.ref M))) ∈ news) (h2 : (d, dictOf [] n) ∈ news) (U : Upd x (exprO C d (sl (.ref M))) (exprO C d (sl (.ref M2))) news news')
    (h : ∀ h' tk, Fr h₀ L h' m → News h₀ L h' news' → Q () { s with heap := h', toks := tk }) : wpAny (model prog w) A (setAttr (.ref x) (Str.ofString "members") (.ref M2)) Q E s := by
  have I : InstAt s.heap x _ C _ := InstAt.of_news N h1 h2
  cases hs <;>
  · refine' set_slot F X N I ?k5 ?k6 ?k7 ?k8 ?k9 ?k10 ?k11 ?k12 U fun h' F' N' => h h' _ F' N'
    case k5 => k_is
    case k6 => k_is
    case k7 => k_is
    case k8 => k_is
    case k9 => k_is
    case k10 => decide
    case k11 => k_slotset
    case k12 => exact rfl
end
local macro_rules | `(tactic| k_mem) => `(tactic| (refine list_mem_of ?_; ktr_member))
local macro_rules | `(tactic| k_all) => `(tactic| assumption)
local macro_rules | `(tactic| k_room) => `(tactic| first | omega | (simp only [depth_under_make, depth_under_kw, depth_in1, depth_deeper]; omega))
local macro_rules | `(tactic| walk_at "pad 1") => `(tactic| fail)
local macro_rules | `(tactic| walk_at "eval GeneratorExp") => `(tactic| (k_dflt ((try dsimp only); refine halt_of ?_)))
local macro_rules | `(tactic| walk_at "call type:tuple") => `(tactic| (k_dflt ((try dsimp only); refine halt_of ?_)))
local macro_rules | `(tactic| walk_at "setAttr ref") => `(tactic| (k_dflt ((try dsimp only); refine halt_of ?_)))
/-- one object at each address of a ledger -/
abbrev Fun1 (Ld : Led1) : Prop := ∀ p ∈ Ld, ∀ q ∈ Ld, p.1 = q.1 → p.2 = q.2
theorem News.fun1 {news : Led1} {h₀ h : Heap} {L : Addr} (N : News h₀ L h news) : Fun1 news := fun p hp q hq e => by
  have a := (N p hp).1
  rw [e, (N q hq).1] at a
  exact (Option.some.inj a).symm
abbrev Plain (o : Obj) : Prop := ∀ vs, o.data ≠ .fields vs
theorem low_of {w : World} {G : Heap} (X : (K9 w.params).In G) : @LT.lt Nat _ 389 G.objs.size := by
  have key : ∃ o, (K9 w.params).lookup 393 = some o := ⟨_, rfl⟩
  obtain ⟨o, h⟩ := key
  exact Nat.lt_of_le_of_lt (by decide) (Heap.lt_size (X _ _ h))
theorem memNe {news : Led1} {h₀ h : Heap} {L : Addr} (N : News h₀ L h news) {p q : Addr × Obj} (hp : p ∈ news) (hq : q ∈ news) (hne : p.2.data ≠ q.2.data) : p.1 ≠ q.1 := fun e => by
  have a := (N p hp).1
  rw [e, (N q hq).1] at a
  exact hne (by rw [Option.some.inj a])
set_option maxHeartbeats 4000000 in
theorem comp_told {prog : Program} {w : World} {news : Led1} {x d rm M C : Addr} {sl : Value → Array (Option Value)} {ys vals : List Value} {n0 dn un dn' un' : Nat} {Inv : Addr → Obj → Nat → Led1 → Prop} {Ret : Value → Led1 → Prop}
    (hs : MSlot C sl) (h1 : (x, exprO C d (sl (.ref M))) ∈ news) (h2 : (d, dictOf [] 0) ∈ news) (hM0 : (M, tupO ys n0) ∈ news) (hT : TabIs news) (hlen : ys.length = vals.length) (hsz : vals.length ≤ 10) (hdn : dn + 20 ≤ dn') (hun : un + 60 ≤ un')
    (hI0 : ∀ cc oc Ld, oc.data = .cell (some (.ref rm)) → (cc, oc) ∈ Ld → (∀ q ∈ news, Plain q.2 → q ∈ Ld) → TabIs Ld → Fun1 Ld → Inv cc oc 0 Ld)
    (hIk : ∀ cc oc i Ld, Inv cc oc i Ld → (x, exprO C d (sl (.ref M))) ∈ Ld ∧ (d, dictOf [] 0) ∈ Ld ∧ (M, tupO ys n0) ∈ Ld ∧ (cc, oc) ∈ Ld)
    (hel : ∀ cc oc, oc.data = .cell (some (.ref rm)) → ∀ i y v, ys[i]? = some y → vals[i]? = some v → ∀ Ld, Inv cc oc i Ld → ∃ fn, keepIn (K9 w.params) (.ref fn) = true ∧
      (∀ {GC : Heap} {C : Addr} {A E Q s m pl}, (K9 w.params).In GC → Fr GC C s.heap m → News GC C s.heap Ld → Q (.ref fn, [y]) s → wpAny (model prog w) A (getMethod y (Str.ofString "resolve_refs") pl) Q E s) ∧ ToldG prog w fn [y, .ref rm] dn un Ld (fun r Ld' => r = v ∧ Inv cc oc (i + 1) Ld'))
    (hret : ∀ cc oc t n Ld, Inv cc oc vals.length Ld → (∀ q ∈ Ld, @Ne Nat q.1 t) → Fun1 Ld → Ret (.ref x) ((x, exprO C d (sl (.ref t))) :: (t, tupO vals n) :: others x Ld)) :
    ToldG prog w 394 [.ref x, .ref rm] dn' un' news Ret := by
  refine toldG_defC (by k_is) (by k_is) (fun _ _ => BindsTo.of_eq rfl) rfl (by decide +kernel) ?_
  intro dp un' gd env outer base G pp loose mean mg mb s L h₁ tk cells hdd hu F N Y hlt Bl Xg TT
  have hrl : recursionLimit = 1000 := rfl
  have hcl : cLine = 9900 := rfl
  k_cells Y
  (try simp only [List.cons_append, List.nil_append] at N)
  (try dsimp only)
  (try k_fold)
  rename Obj => oc
  rename oc.data = _ => hoc
  have hoc' : oc.data = .cell (some (.ref rm)) := hoc
  have F0 := F
  k_steps
  unfold Halt
  have TN : TabIs ((L + 1, oc) :: news) := let ⟨op, ps, a, b⟩ := hT; ⟨op, ps, .tail _ a, b⟩
  refine gen_make_K (M := M) (ys := ys) (n := n0) F Xg N TT TN (.tail _ hM0) (low_of Xg) rfl rfl (by decide +kernel) (by decide +kernel) rfl (by simp only [depth_deeper]; omega) (fun _ => rfl) rfl rfl (fun Q' hQ' => ?_) fun a I C0 h' tk0 code Ld' GC GM => ?_
  · refine Attribute_name (wpAny_Name (wpAny_loadName_local rfl rfl F.ns (v := .ref x) rfl ?_) (by decide))
    exact memb_get F Xg N hs (.tail _ h1) (.tail _ h2) hQ'
  have keepP : ∀ q ∈ (L + 1, oc) :: news, Plain q.2 → q ∈ Ld' := fun q hq hp => GM.keep q hq fun e => by
    obtain ⟨op, ps, a, b, _⟩ := TN
    exact memNe N hq a (by rw [b]; exact hp _) e
  k_steps
  unfold Halt
  refine gen_drain_K (s := { s with heap := h₁, toks := tk }) (Inv := Inv (L + 1) oc) (dn := dn) (un := un) (rm := rm) (cc := L + 1) GM rfl Bl rfl rfl Xg TT rfl (by simp only [depth_deeper]; omega) (by simp only [units_deeper]; omega) (by decide +kernel) (by decide +kernel) rfl rfl (by rfl) (fun i Ld hI => ⟨n0, (hIk _ _ _ _ hI).2.2.1⟩) (fun i Ld hI => ⟨oc, (hIk _ _ _ _ hI).2.2.2, hoc'⟩) hlen ⟨_, rfl⟩ (fun i y v hy hv Ld hI => ?_) ?_ (Nat.le_trans hsz (by decide)) fun t h2' tk2 gs Ld2 n F2 N2 ht hI2 hg => ?_
  · obtain ⟨fn, a1, a2, a3⟩ := hel (L + 1) oc hoc' i y v hy hv Ld hI
    exact ⟨fn, a1, fun F N q => a2 (Frag.In.keeps Xg GM.fl.keep) F N q, a3⟩
  · exact hI0 _ _ _ hoc' (keepP _ (.head _) (fun vs e => by rw [hoc'] at e; cases e)) (fun q hq hp => keepP q (.tail _ hq) hp) GM.tab (News.fun1 GM.ledger)
  · k_steps
    unfold Halt
    obtain ⟨m1, m2, _, _⟩ := hIk _ _ _ _ hI2
    have fun2 : Fun1 Ld2 := fun p hp q hq => News.fun1 N2 p (.tail _ hp) q (.tail _ hq)
    have N3 : News G L h2' ((x, exprO C d (sl (.ref M))) :: (t, tupO vals n) :: others x Ld2) := fun q hq => by
      rcases List.mem_cons.mp hq with rfl | hq
      · exact N2 _ (.tail _ m1)
      rcases List.mem_cons.mp hq with rfl | hq
      · exact N2 _ (.head _)
      · exact N2 _ (.tail _ (List.mem_filter.mp hq).1)
    have hdx : d ≠ x := fun e => by
      have a := (N2 _ (.tail _ m1)).1
      have b := (N2 _ (.tail _ m2)).1
      dsimp only at a b
      rw [e, a] at b; cases b
    refine memb_set F2 Xg N3 hs (.head _) (.tail _ (.tail _ (List.mem_filter.mpr ⟨m2, decide_eq_true hdx⟩))) (.head fun q hq => ?_) fun h5 tk5 F5 N5 => ?_
    · rcases List.mem_cons.mp hq with rfl | hq
      · exact fun e => ht _ m1 e.symm
      · exact front_ne q hq
    · clear F2 N2 N3 F N F0
      k_steps
      exact ⟨_, h5, _, gs, rfl, F5.keep, fun q hq => ⟨(N5 q hq).1, (N5 q hq).2.2⟩, hg, hret _ _ _ _ _ hI2 ht fun2⟩
end VJ
end

section
open PySem PySem.W PyProof.Rows PySem.Calls PySem.Spec PyProof.V
namespace VJ
set_option maxRecDepth 100000
theorem fillR2 : K9 = K9 ∧ PySem.Challenge.rw_vj0024_01 = PySem.Challenge.rw_vj0024_01 := by
  k_fill
  exact ⟨rfl, rfl⟩
local macro_rules | `(tactic| k_mem) => `(tactic| (refine list_mem_of ?_; ktr_member))
local macro_rules | `(tactic| k_all) => `(tactic| assumption)
local macro_rules | `(tactic| k_room) => `(tactic| first | omega | (simp only [depth_under_make, depth_under_kw, depth_in1, depth_deeper]; omega))
local macro_rules | `(tactic| walk_at "call ref") => `(tactic| ((with_reducible show wpAny _ _ (call (Value.ref 588) _) _ _ _); k_dflt ((try dsimp only); refine halt_of ?_)))
section
variable (prog : Program) (w : World) (pl sd : Addr) (n len : Nat) (E : Nat → Ent) (T : Nat → Addr) (P : Nat → Ask) (at_ : Str → Nat → Bool) (val : Nat → Prop) (text : Str)
def ReadC (N : Nat) : Prop := ∀ (mm : Memo) (k p : Nat) (t1 t2 t3 : Tok) (news : List (Addr × Obj)), k < n → val k → p ≤ len → Good len mm → left n len mm ≤ N → SInv prog w news pl sd n len E T mm →
  Told prog w 581 [.ref pl, .int k t1, .str text t2, .int p t3, .ref sd] (4 * N + 4) (32 * N + 40) news
    (fun r news' => ∃ v t mm', r = .int v t ∧ R P at_ len mm (.rd k p) v mm' ∧ SInv prog w news' pl sd n len E T mm') (fun _ => False)
def AskC (N : Nat) : Prop := ∀ (mm : Memo) (k p : Nat) (t1 t2 t3 : Tok) (news : List (Addr × Obj)), k < n → val k → p ≤ len → Good len mm → left n len mm ≤ N → SInv prog w news pl sd n len E T mm →
  Told prog w 588 [.ref pl, .int k t1, .str text t2, .int p t3, .ref sd] (4 * N + 7) (32 * N + 64) news
    (fun r news' => ∃ v t mm', r = .int v t ∧ R P at_ len mm (.as k p) v mm' ∧ SInv prog w news' pl sd n len E T mm') (fun _ => False)
variable {prog w pl sd n len E T P at_ val text}
set_option maxHeartbeats 4000000 in
theorem read_step {N : Nat} (hsz : n * (len + 1) ≤ 1000) (A : ∀ M, M < N → AskC prog w pl sd n len E T P at_ val text M) : ReadC prog w pl sd n len E T P at_ val text N := by
  intro mm k p t1 t2 t3 news hk hv hp hg hl S
  refine told_def (by k_is) (by k_is) (by omega) (fun _ _ => BindsTo.of_eq rfl) (locs rfl) ?_
  intro dp un gd env outer base G pp loose mean mg mb s L h₁ tk hd hu F N' hlt B X TT
  (try dsimp only)
  k_fold
  k_steps
  all_goals (try dsimp only)
  obtain ⟨D, TB, sy, hD⟩ := id S.tab
  rename News _ _ _ _ => N1
  rename Fr _ _ _ _ => F1
  refine notin_tupTab (enc := PyData.int) (ks := [(k:Int), (p:Int)]) PyProof.V.same_int (by simp only [units_deeper]; omega) N1 (TupTab.mono TB (fun q h => .tail _ h)) (List.Mem.head _) ⟨rfl, _, _, rfl, ik2⟩ ?_
  rw [sy k p]
  clear TB sy hD D
  cases hm : mm k p with
  | some v =>
    simp only [Option.map_some, Option.isSome_some, Bool.not_true]
    k_steps
    rename News _ _ _ _ => N2
    rename Fr _ _ _ _ => F2
    obtain ⟨D, TB, sy, hD⟩ := id S.tab
    refine item_tupTab (enc := PyData.int) (ks := [(k:Int), (p:Int)]) (dv := .int v) PyProof.V.same_int (by simp only [units_deeper]; omega) N2 (TupTab.mono TB (fun q h => .tail _ (.tail _ h))) (List.Mem.head _) ⟨rfl, _, _, rfl, ik2⟩ (by rw [sy k p, hm]; rfl) ?_
    intro r hr
    dict_open hr
    exact back_of F2 N2 ⟨_, _, _, rfl, .told hm, S.sup fun q h => .tail _ (.tail _ h)⟩
  | none =>
    simp only [Option.map_none, Option.isSome_none, Bool.not_false]
    have hlt' := left_set (v := -2) hk hp hm
    k_steps
    rename News _ _ _ _ => N2
    rename Fr _ _ _ _ => F2
    obtain ⟨D, TB, sy, hD⟩ := id S.tab
    refine setItem_tupTab (enc := PyData.int) (ks := [(k:Int), (p:Int)]) (dv := .int (-2)) (hsz := by rw [sizeLine_eq]; have : n * (len + 1) ≤ 1000 := hsz; omega) PyProof.V.same_int (by simp only [units_deeper]; omega) (Flat.int _ _) F2 N2 (TupTab.mono TB (fun q h => .tail _ (.tail _ h))) (List.Mem.head _) ⟨rfl, _, _, rfl, ik2⟩ ?_
    intro h3 news3 F3 N3 TB3 hk3 keep3
    have S3 := S.put sy hD hk hp TB3 (fun q hq => keep3 q (.tail _ (.tail _ hq)))
    clear N2 F2 TB sy hD TB3
    k_steps
    unfold Halt
    obtain ⟨M, rfl⟩ : ∃ M, N = M + 1 := ⟨N - 1, by omega⟩
    refine told_use (xs := []) (A M (by omega) (mm.set k p (-2)) k p _ _ _ news3 hk hv hp (hg.set (.inl rfl)) (by omega) S3) B F3 X N3 TT rfl rfl rfl rfl (by simp only [depth_deeper]; omega) (by simp only [units_deeper]; omega) (fun _ h => nomatch h) ?_ (fun _ _ _ _ _ _ _ _ _ _ h => h.elim)
    rintro r news4 h4 tk4 F4 N4 - ⟨v, t, mm', rfl, hR, S4⟩
    simp only [List.nil_append] at N4
    clear N3 F3
    k_steps
    rename News _ _ _ _ => N5
    rename Fr _ _ _ _ => F5
    obtain ⟨D, TB, sy, hD⟩ := id S4.tab
    refine setItem_tupTab (enc := PyData.int) (ks := [(k:Int), (p:Int)]) (dv := .int v) (hsz := by rw [sizeLine_eq]; have : n * (len + 1) ≤ 1000 := hsz; omega) PyProof.V.same_int (by simp only [units_deeper]; omega) (Flat.int _ _) F5 N5 (TupTab.mono TB (fun q h => .tail _ h)) (List.Mem.head _) ⟨rfl, _, _, rfl, ik2⟩ ?_
    intro h6 news6 F6 N6 TB6 hk6 keep6
    have S6 := S4.put sy hD hk hp TB6 (fun q hq => keep6 q (.tail _ hq))
    clear N5 F5 TB sy hD TB6
    k_steps
    rename News _ _ _ _ => N7
    rename Fr _ _ _ _ => F7
    obtain ⟨D, TB, sy, hD⟩ := id S6.tab
    refine item_tupTab (enc := PyData.int) (ks := [(k:Int), (p:Int)]) (dv := .int v) PyProof.V.same_int (by simp only [units_deeper]; omega) N7 (TupTab.mono TB (fun q h => .tail _ h)) (List.Mem.head _) ⟨rfl, _, _, rfl, ik2⟩ (by rw [sy k p]; simp [Memo.set]) ?_
    intro r hr
    dict_open hr
    exact back_of F7 N7 ⟨_, _, _, rfl, .ask hm hR, S6.sup fun q h => .tail _ h⟩
end
end VJ
end

section
open PySem PySem.W PyProof.Rows PySem.Calls PySem.Spec PyProof.V
namespace VJ
set_option maxRecDepth 100000
theorem fillR3 : K9 = K9 ∧ PySem.Challenge.rw_vj0024_01 = PySem.Challenge.rw_vj0024_01 := by
  k_fill
  exact ⟨rfl, rfl⟩
local macro_rules | `(tactic| k_mem) => `(tactic| (refine list_mem_of ?_; ktr_member))
local macro_rules | `(tactic| k_all) => `(tactic| assumption)
local macro_rules | `(tactic| k_room) => `(tactic| first | omega | (simp only [depth_under_make, depth_under_kw, depth_in1, depth_deeper]; omega))
local macro_rules | `(tactic| walk_at "call ref") => `(tactic| ((with_reducible show wpAny _ _ (call (Value.ref 588) _) _ _ _); k_dflt ((try dsimp only); refine halt_of ?_)))
local macro_rules | `(tactic| walk_at "call ref") => `(tactic| ((with_reducible show wpAny _ _ (call (Value.ref 581) _) _ _ _); k_dflt ((try dsimp only); refine halt_of ?_)))
local macro_rules | `(tactic| walk_at "call ref") => `(tactic| ((with_reducible show wpAny _ _ (call (Value.ref 595) _) _ _ _); k_dflt ((try dsimp only); refine halt_of ?_)))
local macro_rules | `(tactic| walk_at "subscriptTail") => `(tactic| ((with_reducible show wpAny _ _ (subscriptTail _ _ (Value.ref _) (Value.int _ _)) _ _ _); k_dflt (refine halt_of ?_)))
def Ent.ask : Ent → Option Ask
  | .rule _ => none
  | .word x => some (.word x)
  | .many o l m => some (.many o l m)
  | .look o g => some (.look o g)
  | .choice o p => some (.choice o p)
  | .chain o p => some (.chain o p)
def Ask.kids : Ask → List Nat
  | .word _ => []
  | .many o _ _ => [o]
  | .look o _ => [o]
  | .choice o p => [o, p]
  | .chain o p => [o, p]
section
variable (prog : Program) (w : World) (pl sd : Addr) (n len : Nat) (E : Nat → Ent) (T : Nat → Addr) (P : Nat → Ask) (at_ : Str → Nat → Bool) (val : Nat → Prop) (text : Str)
def AskJ (N : Nat) : Prop := ∀ (mm : Memo) (k j p : Nat) (t1 t2 t3 : Tok) (news : List (Addr × Obj)), j < n → (E j).ask = some (P k) → (∀ c ∈ (P k).kids, c < n ∧ val c) → p ≤ len → Good len mm → left n len mm ≤ N → SInv prog w news pl sd n len E T mm →
  Told prog w 588 [.ref pl, .int j t1, .str text t2, .int p t3, .ref sd] (4 * N + 6) (32 * N + 56) news
    (fun r news' => ∃ v t mm', r = .int v t ∧ R P at_ len mm (.as k p) v mm' ∧ SInv prog w news' pl sd n len E T mm') (fun _ => False)
def ManyC (N : Nat) : Prop := ∀ (mm : Memo) (o p : Nat) (l m : Int) (t1 t2 t3 t4 t5 : Tok) (news : List (Addr × Obj)), o < n → val o → l ≤ 1 → p ≤ len → Good len mm → left n len mm ≤ N → SInv prog w news pl sd n len E T mm →
  Told prog w 595 [.ref pl, .int o t1, .str text t2, .int p t3, .int l t4, .int m t5, .ref sd] (4 * N + 5) (32 * N + 48) news
    (fun r news' => ∃ v t mm', r = .int v t ∧ R P at_ len mm (.mn o l m 0 p) v mm' ∧ SInv prog w news' pl sd n len E T mm') (fun _ => False)
variable {prog w pl sd n len E T P at_ val text}
set_option maxHeartbeats 4000000 in
theorem ask_word {N k j p : Nat} {x : Str} {mm : Memo} {t1 t2 t3 : Tok} {news : List (Addr × Obj)} (hj : j < n) (e : E j = .word x) (hP : P k = .word x) (hx : x.length ≤ 2) (hlen : text.length = len) (hl5 : len ≤ 5) (hp : p ≤ len) (S : SInv prog w news pl sd n len E T mm) (hn : n ≤ 100)
    (hat : (Txt.slice text (some (p : Int)) (some ((p : Int) + x.length)) == x) = at_ x p) :
  Told prog w 588 [.ref pl, .int j t1, .str text t2, .int p t3, .ref sd] (4 * N + 6) (32 * N + 56) news
    (fun r news' => ∃ v t mm', r = .int v t ∧ R P at_ len mm (.as k p) v mm' ∧ SInv prog w news' pl sd n len E T mm') (fun _ => False) := by
  refine told_def (by k_is) (by k_is) (by omega) (fun _ _ => BindsTo.of_eq rfl) (locs rfl) ?_
  intro dp un gd env outer base G pp loose mean mg mb s L h₁ tk hd hu F N' hlt B X TT
  (try dsimp only)
  k_fold
  obtain ⟨np, hpl⟩ := S.stat.list
  have hT := S.stat.tup j hj
  rw [e] at hT
  obtain ⟨u1, u2, u3, u4, u5, nt, hT⟩ := hT
  k_steps
  unfold Halt
  refine item_list (x := .ref (T j)) (PySem.IsL.isList (n := np) (N' _ hpl).1) (by omega) (by omega) (by simp [hj]) ?_
  k_steps
  · refine back_of (by assumption) (by assumption) ⟨_, _, mm, rfl, ?_, S⟩
    exact .wordY hP (by rw [← hat]; assumption)
  · refine back_of (by assumption) (by assumption) ⟨_, _, mm, rfl, ?_, S⟩
    exact .wordN hP (by rw [← hat]; assumption)
set_option maxHeartbeats 4000000 in
theorem ask_look {N k j p o : Nat} {g : Bool} {mm : Memo} {t1 t2 t3 : Tok} {news : List (Addr × Obj)} (Rd : ReadC prog w pl sd n len E T P at_ val text N) (hj : j < n) (e : E j = .look o g) (hP : P k = .look o g) (ho : o < n ∧ val o) (hp : p ≤ len) (hg0 : Good len mm) (hl : left n len mm ≤ N) (S : SInv prog w news pl sd n len E T mm) (hn : n ≤ 100) :
  Told prog w 588 [.ref pl, .int j t1, .str text t2, .int p t3, .ref sd] (4 * N + 6) (32 * N + 56) news
    (fun r news' => ∃ v t mm', r = .int v t ∧ R P at_ len mm (.as k p) v mm' ∧ SInv prog w news' pl sd n len E T mm') (fun _ => False) := by
  refine told_def (by k_is) (by k_is) (by omega) (fun _ _ => BindsTo.of_eq rfl) (locs rfl) ?_
  intro dp un gd env outer base G pp loose mean mg mb s L h₁ tk hd hu F N' hlt B X TT
  (try dsimp only)
  k_fold
  obtain ⟨np, hpl⟩ := S.stat.list
  have hT := S.stat.tup j hj
  rw [e] at hT
  obtain ⟨u1, u2, u3, u5, nt, hT⟩ := hT
  k_steps
  unfold Halt
  refine item_list (x := .ref (T j)) (PySem.IsL.isList (n := np) (N' _ hpl).1) (by omega) (by omega) (by simp [hj]) ?_
  k_steps
  unfold Halt
  rename News _ _ _ _ => N1
  rename Fr _ _ _ _ => F1
  refine told_use (xs := []) (Rd mm o p _ _ _ news ho.1 ho.2 hp hg0 hl S) B F1 X N1 TT rfl rfl rfl rfl (by simp only [depth_deeper]; omega) (by simp only [units_deeper]; omega) (fun _ h => nomatch h) ?_ (fun _ _ _ _ _ _ _ _ _ _ h => h.elim)
  rintro r news4 h4 tk4 F4 N4 - ⟨v, t, mm', rfl, hR, S4⟩
  simp only [List.nil_append] at N4
  clear N1 F1 hT hpl
  k_steps
  all_goals (try dsimp only)
  · rename v = -2 => hv
    exact back_of (by assumption) (by assumption) ⟨_, _, mm', rfl, .lookX hP (hv ▸ hR), S4⟩
  · rename v ≠ -2 => hv
    rename ((v == -1) == g) = true => hg
    refine back_of (by assumption) (by assumption) ⟨_, _, mm', rfl, ?_, S4⟩
    have := R.look hP hR hv
    rwa [if_pos (show decide (v = -1) = g from beq_iff_eq.mp hg)] at this
  · rename v ≠ -2 => hv
    rename ((v == -1) == g) = false => hg
    refine back_of (by assumption) (by assumption) ⟨_, _, mm', rfl, ?_, S4⟩
    have := R.look hP hR hv
    rwa [if_neg (show ¬ decide (v = -1) = g from fun z => by rw [show ((v == -1) == g) = true from beq_iff_eq.mpr z] at hg; cases hg)] at this
set_option maxHeartbeats 4000000 in
theorem ask_many {N k j p o : Nat} {l m : Int} {mm : Memo} {t1 t2 t3 : Tok} {news : List (Addr × Obj)} (Mn : ManyC prog w pl sd n len E T P at_ val text N) (hj : j < n) (e : E j = .many o l m) (hP : P k = .many o l m) (ho : o < n ∧ val o) (hl1 : l ≤ 1) (hp : p ≤ len) (hg0 : Good len mm) (hl : left n len mm ≤ N) (S : SInv prog w news pl sd n len E T mm) (hn : n ≤ 100) :
  Told prog w 588 [.ref pl, .int j t1, .str text t2, .int p t3, .ref sd] (4 * N + 6) (32 * N + 56) news
    (fun r news' => ∃ v t mm', r = .int v t ∧ R P at_ len mm (.as k p) v mm' ∧ SInv prog w news' pl sd n len E T mm') (fun _ => False) := by
  refine told_def (by k_is) (by k_is) (by omega) (fun _ _ => BindsTo.of_eq rfl) (locs rfl) ?_
  intro dp un gd env outer base G pp loose mean mg mb s L h₁ tk hd hu F N' hlt B X TT
  (try dsimp only)
  k_fold
  obtain ⟨np, hpl⟩ := S.stat.list
  have hT := S.stat.tup j hj
  rw [e] at hT
  obtain ⟨u1, u2, u3, u4, u5, nt, hT⟩ := hT
  k_steps
  unfold Halt
  refine item_list (x := .ref (T j)) (PySem.IsL.isList (n := np) (N' _ hpl).1) (by omega) (by omega) (by simp [hj]) ?_
  k_steps
  unfold Halt
  rename News _ _ _ _ => N1
  rename Fr _ _ _ _ => F1
  refine told_use (xs := []) (Mn mm o p _ _ _ _ _ _ _ news ho.1 ho.2 hl1 hp hg0 hl S) B F1 X N1 TT rfl rfl rfl rfl (by simp only [depth_deeper]; omega) (by simp only [units_deeper]; omega) (fun _ h => nomatch h) ?_ (fun _ _ _ _ _ _ _ _ _ _ h => h.elim)
  rintro r news4 h4 tk4 F4 N4 - ⟨v, t, mm', rfl, hR, S4⟩
  simp only [List.nil_append] at N4
  clear N1 F1 hT hpl
  k_steps
  all_goals (try dsimp only)
  exact back_of (by assumption) (by assumption) ⟨_, _, mm', rfl, .many hP hR, S4⟩
set_option maxHeartbeats 4000000 in
theorem ask_choice {N k j p o o2 : Nat} {mm : Memo} {t1 t2 t3 : Tok} {news : List (Addr × Obj)} (hat : ∀ x p, p ≤ len → at_ x p = true → p + x.length ≤ len) (Rd : ReadC prog w pl sd n len E T P at_ val text N) (hj : j < n) (e : E j = .choice o o2) (hP : P k = .choice o o2) (ho : o < n ∧ val o) (ho2 : o2 < n ∧ val o2) (hp : p ≤ len) (hg0 : Good len mm) (hl : left n len mm ≤ N) (S : SInv prog w news pl sd n len E T mm) (hn : n ≤ 100) :
  Told prog w 588 [.ref pl, .int j t1, .str text t2, .int p t3, .ref sd] (4 * N + 6) (32 * N + 56) news
    (fun r news' => ∃ v t mm', r = .int v t ∧ R P at_ len mm (.as k p) v mm' ∧ SInv prog w news' pl sd n len E T mm') (fun _ => False) := by
  refine told_def (by k_is) (by k_is) (by omega) (fun _ _ => BindsTo.of_eq rfl) (locs rfl) ?_
  intro dp un gd env outer base G pp loose mean mg mb s L h₁ tk hd hu F N' hlt B X TT
  (try dsimp only)
  k_fold
  obtain ⟨np, hpl⟩ := S.stat.list
  have hT := S.stat.tup j hj
  rw [e] at hT
  obtain ⟨u1, u2, u3, u4, u5, nt, hT⟩ := hT
  k_steps
  unfold Halt
  refine item_list (x := .ref (T j)) (PySem.IsL.isList (n := np) (N' _ hpl).1) (by omega) (by omega) (by simp [hj]) ?_
  k_steps
  unfold Halt
  rename News _ _ _ _ => N1
  rename Fr _ _ _ _ => F1
  refine told_use (xs := []) (Rd mm o p _ _ _ news ho.1 ho.2 hp hg0 hl S) B F1 X N1 TT rfl rfl rfl rfl (by simp only [depth_deeper]; omega) (by simp only [units_deeper]; omega) (fun _ h => nomatch h) ?_ (fun _ _ _ _ _ _ _ _ _ _ h => h.elim)
  rintro r news4 h4 tk4 F4 N4 - ⟨v, t, mm', rfl, hR, S4⟩
  simp only [List.nil_append] at N4
  obtain ⟨hg4, hr4⟩ := hR.good hat hg0 hp
  simp only [Ways.place] at hr4
  have hl4 : left n len mm' ≤ N := Nat.le_trans (left_mono hR.grow) hl
  clear N1 F1 hT hpl
  k_steps
  all_goals (try dsimp only)
  · rename v = -2 => hv
    exact back_of (by assumption) (by assumption) ⟨_, _, mm', rfl, .choice1 hP (hv ▸ hR) (by decide), S4⟩
  · exact back_of (by assumption) (by assumption) ⟨_, _, mm', rfl, .choice1 hP hR (by omega), S4⟩
  · obtain rfl : v = -1 := by rcases hr4 with h | h | ⟨q, h, _⟩ <;> omega
    unfold Halt
    rename News _ _ _ _ => N5
    rename Fr _ _ _ _ => F5
    refine told_use (xs := []) (Rd mm' o2 p _ _ _ news4 ho2.1 ho2.2 hp hg4 hl4 S4) B F5 X N5 TT rfl rfl rfl rfl (by simp only [depth_deeper]; omega) (by simp only [units_deeper]; omega) (fun _ h => nomatch h) ?_ (fun _ _ _ _ _ _ _ _ _ _ h => h.elim)
    rintro r news6 h6 tk6 F6 N6 - ⟨v2, t2, mm2, rfl, hR2, S6⟩
    simp only [List.nil_append] at N6
    clear N5 F5
    k_steps
    all_goals (try dsimp only)
    exact back_of (by assumption) (by assumption) ⟨_, _, mm2, rfl, .choice2 hP hR hR2, S6⟩
set_option maxHeartbeats 4000000 in
theorem ask_chain {N k j p o o2 : Nat} {mm : Memo} {t1 t2 t3 : Tok} {news : List (Addr × Obj)} (hat : ∀ x p, p ≤ len → at_ x p = true → p + x.length ≤ len) (Rd : ReadC prog w pl sd n len E T P at_ val text N) (hj : j < n) (e : E j = .chain o o2) (hP : P k = .chain o o2) (ho : o < n ∧ val o) (ho2 : o2 < n ∧ val o2) (hp : p ≤ len) (hg0 : Good len mm) (hl : left n len mm ≤ N) (S : SInv prog w news pl sd n len E T mm) (hn : n ≤ 100) :
  Told prog w 588 [.ref pl, .int j t1, .str text t2, .int p t3, .ref sd] (4 * N + 6) (32 * N + 56) news
    (fun r news' => ∃ v t mm', r = .int v t ∧ R P at_ len mm (.as k p) v mm' ∧ SInv prog w news' pl sd n len E T mm') (fun _ => False) := by
  refine told_def (by k_is) (by k_is) (by omega) (fun _ _ => BindsTo.of_eq rfl) (locs rfl) ?_
  intro dp un gd env outer base G pp loose mean mg mb s L h₁ tk hd hu F N' hlt B X TT
  (try dsimp only)
  k_fold
  obtain ⟨np, hpl⟩ := S.stat.list
  have hT := S.stat.tup j hj
  rw [e] at hT
  obtain ⟨u1, u2, u3, u4, u5, nt, hT⟩ := hT
  k_steps
  unfold Halt
  refine item_list (x := .ref (T j)) (PySem.IsL.isList (n := np) (N' _ hpl).1) (by omega) (by omega) (by simp [hj]) ?_
  k_steps
  unfold Halt
  rename News _ _ _ _ => N1
  rename Fr _ _ _ _ => F1
  refine told_use (xs := []) (Rd mm o p _ _ _ news ho.1 ho.2 hp hg0 hl S) B F1 X N1 TT rfl rfl rfl rfl (by simp only [depth_deeper]; omega) (by simp only [units_deeper]; omega) (fun _ h => nomatch h) ?_ (fun _ _ _ _ _ _ _ _ _ _ h => h.elim)
  rintro r news4 h4 tk4 F4 N4 - ⟨v, t, mm', rfl, hR, S4⟩
  simp only [List.nil_append] at N4
  obtain ⟨hg4, hr4⟩ := hR.good hat hg0 hp
  simp only [Ways.place] at hr4
  have hl4 : left n len mm' ≤ N := Nat.le_trans (left_mono hR.grow) hl
  clear N1 F1 hT hpl
  k_steps
  all_goals (try dsimp only)
  · rename v = -2 => hv
    exact back_of (by assumption) (by assumption) ⟨_, _, mm', rfl, .chain1 hP (hv ▸ hR) (by decide), S4⟩
  · exact back_of (by assumption) (by assumption) ⟨_, _, mm', rfl, .chain1 hP hR (by omega), S4⟩
  · obtain ⟨q, rfl, hq1, hq2⟩ : ∃ q : Nat, v = q ∧ p ≤ q ∧ q ≤ len := by
      rcases hr4 with h | h | h
      · omega
      · omega
      · exact h
    unfold Halt
    rename News _ _ _ _ => N5
    rename Fr _ _ _ _ => F5
    refine told_use (xs := []) (Rd mm' o2 q _ _ _ news4 ho2.1 ho2.2 hq2 hg4 hl4 S4) B F5 X N5 TT rfl rfl rfl rfl (by simp only [depth_deeper]; omega) (by simp only [units_deeper]; omega) (fun _ h => nomatch h) ?_ (fun _ _ _ _ _ _ _ _ _ _ h => h.elim)
    rintro r news6 h6 tk6 F6 N6 - ⟨v2, t2, mm2, rfl, hR2, S6⟩
    simp only [List.nil_append] at N6
    clear N5 F5
    k_steps
    all_goals (try dsimp only)
    exact back_of (by assumption) (by assumption) ⟨_, _, mm2, rfl, .chain2 hP hR hR2, S6⟩
set_option maxHeartbeats 4000000 in
theorem ask_rule {N k p m : Nat} {mm : Memo} {t1 t2 t3 : Tok} {news : List (Addr × Obj)} (J : AskJ prog w pl sd n len E T P at_ val text N) (hj : k < n) (e : E k = .rule m) (hm : m < n) (hem : (E m).ask = some (P k)) (hkids : ∀ c ∈ (P k).kids, c < n ∧ val c) (hp : p ≤ len) (hg0 : Good len mm) (hl : left n len mm ≤ N) (S : SInv prog w news pl sd n len E T mm) (hn : n ≤ 100) :
  Told prog w 588 [.ref pl, .int k t1, .str text t2, .int p t3, .ref sd] (4 * N + 7) (32 * N + 64) news
    (fun r news' => ∃ v t mm', r = .int v t ∧ R P at_ len mm (.as k p) v mm' ∧ SInv prog w news' pl sd n len E T mm') (fun _ => False) := by
  refine told_def (by k_is) (by k_is) (by omega) (fun _ _ => BindsTo.of_eq rfl) (locs rfl) ?_
  intro dp un gd env outer base G pp loose mean mg mb s L h₁ tk hd hu F N' hlt B X TT
  (try dsimp only)
  k_fold
  obtain ⟨np, hpl⟩ := S.stat.list
  have hT := S.stat.tup k hj
  rw [e] at hT
  obtain ⟨u1, u2, u3, u4, u5, nt, hT⟩ := hT
  k_steps
  unfold Halt
  refine item_list (x := .ref (T k)) (PySem.IsL.isList (n := np) (N' _ hpl).1) (by omega) (by omega) (by simp [hj]) ?_
  k_steps
  unfold Halt
  rename News _ _ _ _ => N1
  rename Fr _ _ _ _ => F1
  refine told_use (xs := []) (J mm k m p _ _ _ news hm hem hkids hp hg0 hl S) B F1 X N1 TT rfl rfl rfl rfl (by simp only [depth_deeper]; omega) (by simp only [units_deeper]; omega) (fun _ h => nomatch h) ?_ (fun _ _ _ _ _ _ _ _ _ _ h => h.elim)
  rintro r news4 h4 tk4 F4 N4 - ⟨v, t, mm', rfl, hR, S4⟩
  simp only [List.nil_append] at N4
  clear N1 F1 hT hpl
  k_steps
  all_goals (try dsimp only)
  exact back_of (by assumption) (by assumption) ⟨_, _, mm', rfl, hR, S4⟩
end
end VJ
end

section
open PySem PySem.W PyProof.Rows PySem.Calls PySem.Spec PyProof.V
namespace VJ
set_option maxRecDepth 100000
theorem fillRes7 : K9 = K9 ∧ PySem.Challenge.rw_vj0024_01 = PySem.Challenge.rw_vj0024_01 := by
  k_fill
  exact ⟨rfl, rfl⟩
theorem ToldG.mono {prog : Program} {w : World} {f : Addr} {vs : List Value} {dn un dn' un' : Nat} {news : Led1} {Ret Ret' : Value → Led1 → Prop} (T : ToldG prog w f vs dn un news Ret) (h1 : dn ≤ dn') (h2 : un ≤ un') (hr : ∀ r n', Ret r n' → Ret' r n') : ToldG prog w f vs dn' un' news Ret' :=
  fun A env outer base G p loose mean mg mb s Q E B X TT hh hd hu hk hz N ret => T A env outer base G p loose mean mg mb s Q E B X TT hh (by omega) (by omega) hk hz N fun r news' h' tk' gs' a b c d => ret r news' h' tk' gs' a b c (hr _ _ d)
theorem ToldG.of_fun1 {prog : Program} {w : World} {f : Addr} {vs : List Value} {dn un : Nat} {news : Led1} {Ret : Value → Led1 → Prop} (T : Fun1 news → ToldG prog w f vs dn un news Ret) : ToldG prog w f vs dn un news Ret :=
  fun A env outer base G p loose mean mg mb s Q E B X TT hh hd hu hk hz N ret => T (fun p hp q hq e => by
    have a := (N p hp).1
    rw [e, (N q hq).1] at a
    exact (Option.some.inj a).symm) A env outer base G p loose mean mg mb s Q E B X TT hh hd hu hk hz N ret
local macro_rules | `(tactic| k_all) => `(tactic| assumption)
local macro_rules | `(tactic| k_room) => `(tactic| first | omega | (simp only [depth_under_make, depth_under_kw, depth_in1, depth_deeper]; omega))
set_option maxHeartbeats 4000000 in
theorem lit_told {prog : Program} {w : World} {x rm : Addr} {news : Led1} : ToldG prog w 274 [.ref x, .ref rm] 20 100 news (fun r news' => r = .ref x ∧ news' = news) := by
  refine ToldG.of_told ?_
  refine told_def (by k_is) (by k_is) (by decide) (fun _ _ => BindsTo.of_eq rfl) (locs rfl) ?_
  intro dp un gd env outer base G p loose mean mg mb s L h₁ tk hdd hu F N hlt B X T
  (try dsimp only)
  k_fold
  k_steps
  exact back_of F N ⟨rfl, rfl⟩
def Soft (o : Obj) : Prop := (∀ vs, o.data ≠ .fields vs) ∧ o.data ≠ .plain
theorem soft_seq {vs : List Value} {n : Nat} : Soft (tupO vs n) := ⟨fun _ e => (nomatch e), fun e => (nomatch e)⟩
theorem soft_dict {es : List DictEntry} {n : Nat} : Soft (dictOf es n) := ⟨fun _ e => (nomatch e), fun e => (nomatch e)⟩
theorem soft_lazy {d : Addr} {x : Str} {t : Tok} : Soft (lazyObj d x t) := ⟨fun _ e => (nomatch e), fun e => (nomatch e)⟩
def clsE : Ent → Nat
  | .rule _ => 0 | .word _ => 367 | .many _ _ _ => 528 | .look _ _ => 489 | .choice _ _ => 451 | .chain _ _ => 425
def fnE : Ent → Nat
  | .word _ => 274 | _ => 394
def Res (news : Led1) (XR D : Nat → Addr) (k : Nat) (e : Ent) : Prop := ∃ a, e.ask = some a ∧ ExprIs news XR D k a
section
variable {news news' : Led1} {X XR D : Nat → Addr} {k : Nat} {e : Ent}
theorem RefOk.keep {o : Nat} {y : Addr} (hS : ∀ q ∈ news, Soft q.2 → q ∈ news') (h : RefOk news X k o y) : RefOk news' X k o y := by
  rcases h with ⟨h, d, tk, h1, h2⟩ | h
  · exact .inl ⟨h, d, tk, hS _ h1 soft_lazy, hS _ h2 soft_dict⟩
  · exact .inr h
theorem Raw.keep (hX : ∀ o, (X k, o) ∈ news → o.data = .plain → (X k, o) ∈ news') (hS : ∀ q ∈ news, Soft q.2 → q ∈ news') (h : Raw news X D k e) : Raw news' X D k e := by
  cases e with
  | rule m => exact h
  | word x => obtain ⟨a, t, i, nm, tn, b, c⟩ := h; exact ⟨a, t, i, nm, tn, b, hX _ c rfl⟩
  | many o l m => obtain ⟨a, M, i, nm, tn, mx, tl, y, b, c, d, f, g⟩ := h; exact ⟨a, M, i, nm, tn, mx, tl, y, b, hX _ c rfl, hS _ d soft_seq, f, g.keep hS⟩
  | look o g => obtain ⟨M, i, nm, tn, y, b, c, d, g⟩ := h; exact ⟨M, i, nm, tn, y, b, hX _ c rfl, hS _ d soft_seq, g.keep hS⟩
  | choice o p => obtain ⟨M, i, nm, tn, y, z, b, c, d, f, g⟩ := h; exact ⟨M, i, nm, tn, y, z, b, hX _ c rfl, hS _ d soft_seq, f.keep hS, g.keep hS⟩
  | chain o p => obtain ⟨M, i, nm, tn, y, z, b, c, d, f, g⟩ := h; exact ⟨M, i, nm, tn, y, z, b, hX _ c rfl, hS _ d soft_seq, f.keep hS, g.keep hS⟩
theorem SlotsAre.keepS {nm : Str} {sl : Array (Option Value)} {a : Ask} (hS : ∀ q ∈ news, Soft q.2 → q ∈ news') (S : SlotsAre news XR nm sl a) : SlotsAre news' XR nm sl a := by
  cases a with
  | word x => exact S
  | chain o o2 => obtain ⟨M, n, i, t, e, hm⟩ := S; exact ⟨M, n, i, t, e, hS _ hm soft_seq⟩
  | choice o o2 => obtain ⟨M, n, i, t, e, hm⟩ := S; exact ⟨M, n, i, t, e, hS _ hm soft_seq⟩
  | look o g => obtain ⟨M, n, i, t, e, hm⟩ := S; exact ⟨M, n, i, t, e, hS _ hm soft_seq⟩
  | many o l m => obtain ⟨hl, M, n, i, t, mx, tl, e, hm, r⟩ := S; exact ⟨hl, M, n, i, t, mx, tl, e, hS _ hm soft_seq, r⟩
theorem Res.keep (hX : ∀ o, (XR k, o) ∈ news → o.data = .plain → (XR k, o) ∈ news') (hS : ∀ q ∈ news, Soft q.2 → q ∈ news') (h : Res news XR D k e) : Res news' XR D k e := by
  obtain ⟨a, ha, sl, nm, hn, hm, r⟩ := h
  exact ⟨a, ha, sl, nm, hn, hX _ hm rfl, r.keepS hS⟩
/-- a piece not yet resolved: a word, or something around its members -/
theorem Raw.form (h : Raw news X D k e) : (∃ x, e = .word x ∧ ∀ XR : Nat → Addr, XR k = X k → Res news XR D k e) ∨ (fnE e = 394 ∧ ∃ sl M, ∃ ys : List Addr, MSlot (clsE e) sl ∧ (X k, exprO (clsE e) (D k) (sl (.ref M))) ∈ news ∧ (M, tupO (ys.map Value.ref) 0) ∈ news ∧ ys.length = e.kids.length ∧
    (∀ (i : Nat) (y : Addr) (c : Nat), ys[i]? = some y → e.kids[i]? = some c → RefOk news X k c y) ∧
    ∀ (news' : Led1) (XR : Nat → Addr) (t : Addr) (n' : Nat), XR k = X k → (X k, exprO (clsE e) (D k) (sl (.ref t))) ∈ news' → (t, tupO (e.kids.map fun c => Value.ref (XR c)) n') ∈ news' → Res news' XR D k e) := by
  cases e with
  | rule m => exact h.elim
  | word x =>
    obtain ⟨a, t, i, nm, tn, b, c⟩ := h
    exact .inl ⟨x, rfl, fun XR hx => ⟨_, rfl, _, nm, b, by rw [hx]; exact c, a, t, i, tn, rfl⟩⟩
  | many o l m =>
    obtain ⟨a, M, i, nm, tn, mx, tl, y, b, c, d, f, g⟩ := h
    refine .inr ⟨rfl, _, M, [y], .many mx (.int l tl) i (.str nm tn), c, d, rfl, fun i y c h1 h2 => ?_, fun news' XR t n' hx h1 h2 => ⟨_, rfl, _, nm, b, by rw [hx]; exact h1, a, t, n', i, tn, mx, tl, rfl, h2, f⟩⟩
    match i with
    | 0 => cases h1; cases h2; exact g
  | look o gg =>
    obtain ⟨M, i, nm, tn, y, b, c, d, g⟩ := h
    refine .inr ⟨rfl, _, M, [y], .look (.bool gg) i (.str nm tn), c, d, rfl, fun i y c h1 h2 => ?_, fun news' XR t n' hx h1 h2 => ⟨_, rfl, _, nm, b, by rw [hx]; exact h1, t, n', i, tn, rfl, h2⟩⟩
    match i with
    | 0 => cases h1; cases h2; exact g
  | choice o p =>
    obtain ⟨M, i, nm, tn, y, z, b, c, d, f, g⟩ := h
    refine .inr ⟨rfl, _, M, [y, z], .choice i (.str nm tn), c, d, rfl, fun i y c h1 h2 => ?_, fun news' XR t n' hx h1 h2 => ⟨_, rfl, _, nm, b, by rw [hx]; exact h1, t, n', i, tn, rfl, h2⟩⟩
    match i with
    | 0 => cases h1; cases h2; exact f
    | 1 => cases h1; cases h2; exact g
  | chain o p =>
    obtain ⟨M, i, nm, tn, y, z, b, c, d, f, g⟩ := h
    refine .inr ⟨rfl, _, M, [y, z], .chain i (.str nm tn), c, d, rfl, fun i y c h1 h2 => ?_, fun news' XR t n' hx h1 h2 => ⟨_, rfl, _, nm, b, by rw [hx]; exact h1, t, n', i, tn, rfl, h2⟩⟩
    match i with
    | 0 => cases h1; cases h2; exact f
    | 1 => cases h1; cases h2; exact g
theorem Raw.cls (h : Raw news X D k e) : ∃ sl, (X k, exprO (clsE e) (D k) sl) ∈ news := by
  cases e with
  | rule m => exact h.elim
  | word x => obtain ⟨a, t, i, nm, tn, b, c⟩ := h; exact ⟨_, c⟩
  | many o l m => obtain ⟨a, M, i, nm, tn, mx, tl, y, b, c, d, f, g⟩ := h; exact ⟨_, c⟩
  | look o g => obtain ⟨M, i, nm, tn, y, b, c, d, g⟩ := h; exact ⟨_, c⟩
  | choice o p => obtain ⟨M, i, nm, tn, y, z, b, c, d, f, g⟩ := h; exact ⟨_, c⟩
  | chain o p => obtain ⟨M, i, nm, tn, y, z, b, c, d, f, g⟩ := h; exact ⟨_, c⟩
theorem Res.cls (h : Res news XR D k e) : ∃ sl, (XR k, exprO (clsE e) (D k) sl) ∈ news := by
  obtain ⟨a, ha, sl, nm, hn, hm, r⟩ := h
  cases e <;> first | (cases ha; done) | (cases ha; exact ⟨sl, hm⟩)
theorem cls_fn (he : ∀ m, e ≠ .rule m) : (clsE e = (367 : Nat) ∧ fnE e = (274 : Nat)) ∨ (clsE e = (425 : Nat) ∧ fnE e = (394 : Nat)) ∨ (clsE e = (451 : Nat) ∧ fnE e = (394 : Nat)) ∨ (clsE e = (489 : Nat) ∧ fnE e = (394 : Nat)) ∨ (clsE e = (528 : Nat) ∧ fnE e = (394 : Nat)) := by
  cases e with
  | rule m => exact absurd rfl (he m)
  | word x => exact .inl ⟨rfl, rfl⟩
  | chain o p => exact .inr (.inl ⟨rfl, rfl⟩)
  | choice o p => exact .inr (.inr (.inl ⟨rfl, rfl⟩))
  | look o p => exact .inr (.inr (.inr (.inl ⟨rfl, rfl⟩)))
  | many o l m => exact .inr (.inr (.inr (.inr ⟨rfl, rfl⟩)))
end
end VJ
end

section
open PySem PySem.W PyProof.Rows PySem.Calls PySem.W.X
namespace VJ
set_option maxRecDepth 100000
theorem fillLz : K9 = K9 ∧ PySem.Challenge.rw_vj0024_01 = PySem.Challenge.rw_vj0024_01 := by
  k_fill
  exact ⟨rfl, rfl⟩
/-- the dict of the three rules -/
abbrev rulesObj (w : World) (A0 A1 A2 : Addr) (t0 t1 t2 : Tok) (n : Nat) : Obj := { cls := .type "dict", data := .dict #[⟨PyData.keyHash w.params (Str.ofString "p"), .str (Str.ofString "p") t0, .ref A0⟩, ⟨PyData.keyHash w.params (Str.ofString "q"), .str (Str.ofString "q") t1, .ref A1⟩, ⟨PyData.keyHash w.params (Str.ofString "r"), .str (Str.ofString "r") t2, .ref A2⟩] n }
section
variable {prog : Program} {w : World} {s : Shared} {a d : Addr} {tk : Tok} {x : Str}
local macro_rules | `(tactic| x_close) => `(tactic| (refine' ⟨⟨_, rfl⟩, _, _, _, rfl, ?D⟩; (case D => first | assumption | exact Mem.start _)))
set_option maxHeartbeats 4000000 in
theorem lz_strp (X : (K9 w.params).In s.heap)
   (h1 : s.heap.get? a = some { cls := .ref 556, dict := some d, data := .prim (.str (Str.ofString "p") tk) }) :
    wpAny (model prog w) A9 (call (.type "str") [.ref a] []) (fun v s' => (∃ t, v = .str (Str.ofString "p") t) ∧ ∃ h tk new, s' = ⟨h, s.gens, s.drawn, tk, s.os⟩ ∧ Mem s.heap h [] new) (fun _ _ => False) s := by
  x_run
set_option maxHeartbeats 4000000 in
theorem lz_strq (X : (K9 w.params).In s.heap)
   (h1 : s.heap.get? a = some { cls := .ref 556, dict := some d, data := .prim (.str (Str.ofString "q") tk) }) :
    wpAny (model prog w) A9 (call (.type "str") [.ref a] []) (fun v s' => (∃ t, v = .str (Str.ofString "q") t) ∧ ∃ h tk new, s' = ⟨h, s.gens, s.drawn, tk, s.os⟩ ∧ Mem s.heap h [] new) (fun _ _ => False) s := by
  x_run
set_option maxHeartbeats 4000000 in
theorem lz_strr (X : (K9 w.params).In s.heap)
   (h1 : s.heap.get? a = some { cls := .ref 556, dict := some d, data := .prim (.str (Str.ofString "r") tk) }) :
    wpAny (model prog w) A9 (call (.type "str") [.ref a] []) (fun v s' => (∃ t, v = .str (Str.ofString "r") t) ∧ ∃ h tk new, s' = ⟨h, s.gens, s.drawn, tk, s.os⟩ ∧ Mem s.heap h [] new) (fun _ _ => False) s := by
  x_run
local macro_rules | `(tactic| x_close) => `(tactic| (refine' ⟨rfl, _, _, _, rfl, ?D⟩; (case D => first | assumption | exact Mem.start _)))
set_option maxHeartbeats 4000000 in
theorem lz_inst451 {A0 dA : Addr} {sl : Array (Option Value)} (X : (K9 w.params).In s.heap) (h3 : s.heap.get? A0 = some ⟨.ref 451, some dA, .plain, sl⟩) :
    wpAny (model prog w) A9 (call (.builtin "isinstance") [.ref A0, .ref 556] []) (fun v s' => v = .bool false ∧ ∃ h tk new, s' = ⟨h, s.gens, s.drawn, tk, s.os⟩ ∧ Mem s.heap h [] new) (fun _ _ => False) s := by
  x_run
set_option maxHeartbeats 4000000 in
theorem lz_inst425 {A0 dA : Addr} {sl : Array (Option Value)} (X : (K9 w.params).In s.heap) (h3 : s.heap.get? A0 = some ⟨.ref 425, some dA, .plain, sl⟩) :
    wpAny (model prog w) A9 (call (.builtin "isinstance") [.ref A0, .ref 556] []) (fun v s' => v = .bool false ∧ ∃ h tk new, s' = ⟨h, s.gens, s.drawn, tk, s.os⟩ ∧ Mem s.heap h [] new) (fun _ _ => False) s := by
  x_run
theorem lz_instK {A : Around} {E Q : Value → Shared → Prop} {h₀ : Heap} {L : Addr} {m : Str → Option Value} {news : Led1} {A0 dA : Addr} {cls : Nat} {sl : Array (Option Value)} (hl : cls = 451 ∨ cls = 425) (F : Fr h₀ L s.heap m) (X : (K9 w.params).In h₀) (N : News h₀ L s.heap news) (hm : (A0, (⟨.ref cls, some dA, .plain, sl⟩ : Obj)) ∈ news) (hh : A.handled = none) (hd : A.depth ≤ 900) (hu : A.units ≤ 9000)
    (h : ∀ h' tk', Fr h₀ L h' m → News h₀ L h' news → Q (.bool false) { s with heap := h', toks := tk' }) : wpAny (model prog w) A (call (.builtin "isinstance") [.ref A0, .ref 556]) Q E s := by
  have key : wpAny (model prog w) A9 (call (.builtin "isinstance") [.ref A0, .ref 556] []) (fun v s' => v = .bool false ∧ ∃ h tk new, s' = ⟨h, s.gens, s.drawn, tk, s.os⟩ ∧ Mem s.heap h [] new) (fun _ _ => False) s := by
    have X' := Frag.In.keeps X F.keep
    rcases hl with rfl | rfl
    · exact lz_inst451 X' (N _ hm).1
    · exact lz_inst425 X' (N _ hm).1
  refine wpAny_mono (wide_around key hh hd hu) (fun r s' q => ?_) fun _ _ e => e.elim
  obtain ⟨rfl, h', tk', new, rfl, D⟩ := q
  have k := mem_keep D
  exact h h' tk' (F.keeps k) (N.grown k)
theorem lz_strK {A : Around} {E Q : Value → Shared → Prop} {h₀ : Heap} {L : Addr} {m : Str → Option Value} {news : Led1} {c : Nat} (hc : c < 3) (F : Fr h₀ L s.heap m) (X : (K9 w.params).In h₀) (N : News h₀ L s.heap news) (hm : (a, lazyObj d (nameOf c) tk) ∈ news) (hh : A.handled = none) (hd : A.depth ≤ 900) (hu : A.units ≤ 9000)
    (h : ∀ t h' tk', Fr h₀ L h' m → News h₀ L h' news → Q (.str (nameOf c) t) { s with heap := h', toks := tk' }) : wpAny (model prog w) A (call (.type "str") [.ref a]) Q E s := by
  have key : wpAny (model prog w) A9 (call (.type "str") [.ref a] []) (fun v s' => (∃ t, v = .str (nameOf c) t) ∧ ∃ h tk new, s' = ⟨h, s.gens, s.drawn, tk, s.os⟩ ∧ Mem s.heap h [] new) (fun _ _ => False) s := by
    have X' := Frag.In.keeps X F.keep
    rcases (show c = 0 ∨ c = 1 ∨ c = 2 by omega) with rfl | rfl | rfl
    · exact lz_strp X' (N _ hm).1
    · exact lz_strq X' (N _ hm).1
    · exact lz_strr X' (N _ hm).1
  refine wpAny_mono (wide_around key hh hd hu) (fun r s' q => ?_) fun _ _ e => e.elim
  obtain ⟨⟨t, rfl⟩, h', tk', new, rfl, D⟩ := q
  have k := mem_keep D
  exact h t h' tk' (F.keeps k) (N.grown k)
end
theorem rules_dict {prog : Program} {w : World} {o : Nat → Addr} {t0 t1 t2 : Tok} {n : Nat} : (rulesObj w (o 0) (o 1) (o 2) t0 t1 t2 n).IsDictOf (PySem.strKind prog w) ((List.range 3).map fun k => (nameOf k, Value.ref (o k))) := by
  have n01 : nameOf 0 ≠ nameOf 1 := by decide +kernel
  have n02 : nameOf 0 ≠ nameOf 2 := by decide +kernel
  have n12 : nameOf 1 ≠ nameOf 2 := by decide +kernel
  refine ⟨_, _, ⟨rfl, rfl, rfl⟩, rfl, fun e he => ?_, ?_, ?_⟩
  · simp only [List.mem_toArray, List.mem_cons, List.not_mem_nil, or_false] at he
    rcases he with rfl | rfl | rfl
    · exact ⟨_, strKind_is _ _ _ _, rfl⟩
    · exact ⟨_, strKind_is _ _ _ _, rfl⟩
    · exact ⟨_, strKind_is _ _ _ _, rfl⟩
  · exact .cons (strKind_is _ _ _ _) rfl (.cons (strKind_is _ _ _ _) rfl (.cons (strKind_is _ _ _ _) rfl .nil))
  · show [nameOf 0, nameOf 1, nameOf 2].Nodup
    simp [n01, n02, n12]
theorem rules_at {o : Nat → Addr} {i : Nat} (hi : i < 3) : valueAt ((List.range 3).map fun k => (nameOf k, Value.ref (o k))) (nameOf i) = some (.ref (o i)) := by
  have n01 : nameOf 0 ≠ nameOf 1 := by decide +kernel
  have n02 : nameOf 0 ≠ nameOf 2 := by decide +kernel
  have n12 : nameOf 1 ≠ nameOf 2 := by decide +kernel
  have e : ((List.range 3).map fun k => (nameOf k, Value.ref (o k))) = [(nameOf 0, Value.ref (o 0)), (nameOf 1, Value.ref (o 1)), (nameOf 2, Value.ref (o 2))] := rfl
  rw [e]
  unfold valueAt
  rcases (show i = 0 ∨ i = 1 ∨ i = 2 by omega) with rfl | rfl | rfl
  · simp
  · simp [n01]
  · simp [n02, n12]
local macro_rules | `(tactic| k_mem) => `(tactic| (refine list_mem_of ?_; ktr_member))
local macro_rules | `(tactic| k_all) => `(tactic| assumption)
local macro_rules | `(tactic| k_room) => `(tactic| first | omega | (simp only [depth_under_make, depth_under_kw, depth_in1, depth_deeper]; omega))
local macro_rules | `(tactic| walk_at "subscriptTail") => `(tactic| ((with_reducible show wpAny _ _ (subscriptTail _ _ (Value.ref _) (Value.str _ _)) _ _ _); k_dflt ((try dsimp only); refine halt_of ?_)))
local macro_rules | `(tactic| walk_at "call type:str") => `(tactic| (k_here; (with_reducible show wpAny _ _ (call (Value.type "str") [Value.ref _]) _ _ _); k_dflt (refine' lz_strK ?hc ?F ?X ?N ?M ?hh ?hd ?hu ?_; (case hc => assumption); (case F => k_asm); (case X => k_asm); (case N => k_asm); (case M => k_mem); (case hh => exact rfl); (case hd => (simp only [depth_in1, depth_deeper]; omega)); (case hu => (simp only [units_in1, units_deeper]; omega)); k_whole); intro t' h' tk' F' N'; (try k_sweep)))
local macro_rules | `(tactic| walk_at "call builtin:isinstance") => `(tactic| (k_here; (with_reducible show wpAny _ _ (call (Value.builtin "isinstance") [Value.ref _, Value.ref 556]) _ _ _); k_dflt (refine' lz_instK ?hc ?F ?X ?N ?M ?hh ?hd ?hu ?_; (case hc => assumption); (case F => k_asm); (case X => k_asm); (case N => k_asm); (case M => k_mem); (case hh => exact rfl); (case hd => (simp only [depth_in1, depth_deeper]; omega)); (case hu => (simp only [units_in1, units_deeper]; omega)); k_whole); intro h' tk' F' N'; (try k_sweep)))
set_option maxHeartbeats 4000000 in
theorem lazy_told {prog : Program} {w : World} {a d rm dA : Addr} {tk t0 t1 t2 : Tok} {n c cls : Nat} {sl : Array (Option Value)} {o : Nat → Addr} {news : Led1} (hc : c < 3) (hl : cls = 451 ∨ cls = 425) (h1 : (a, lazyObj d (nameOf c) tk) ∈ news) (h2 : (rm, rulesObj w (o 0) (o 1) (o 2) t0 t1 t2 n) ∈ news) (h3 : (o c, (⟨.ref cls, some dA, .plain, sl⟩ : Obj)) ∈ news) :
    ToldG prog w 546 [.ref a, .ref rm] 100 1000 news (fun r news' => r = .ref (o c) ∧ news' = news) := by
  refine ToldG.of_told ?_
  refine told_def (by k_is) (by k_is) (by decide) (fun _ _ => BindsTo.of_eq rfl) (locs rfl) ?_
  intro dp un gd env outer base G p loose mean mg mb s L h₁ tkq hdd hu F N₀ hlt B X T
  (try dsimp only)
  k_fold
  have N : News G L h₁ ((a, lazyObj d (nameOf c) tk) :: (rm, rulesObj w (o 0) (o 1) (o 2) t0 t1 t2 n) :: (o c, (⟨.ref cls, some dA, .plain, sl⟩ : Obj)) :: news) := List.forall_mem_cons.mpr ⟨N₀ _ h1, List.forall_mem_cons.mpr ⟨N₀ _ h2, List.forall_mem_cons.mpr ⟨N₀ _ h3, N₀⟩⟩⟩
  clear N₀ h1 h2 h3
  have hrl : recursionLimit = 1000 := rfl
  have hcl : cLine = 9900 := rfl
  k_steps
  unfold Halt
  rename News _ _ _ _ => N1
  refine kda_item (knd := PySem.strKind _ w) N1 (by k_mem) (rules_dict (prog := prog) (o := o)) (strKind_is _ _ _ _) (rules_at hc) ?_
  k_steps
  rename News _ _ _ _ => N9
  rename Fr _ _ _ _ => F9
  exact back_of F9 (fun q hq => N9 q (.tail _ (.tail _ (.tail _ (.tail _ hq))))) ⟨rfl, rfl⟩
end VJ
end

section
open PySem PySem.W PyProof.Rows PySem.Calls PySem.Spec PyProof.V
namespace VJ
set_option maxRecDepth 100000
theorem fillRes8 : K9 = K9 ∧ PySem.Challenge.rw_vj0024_01 = PySem.Challenge.rw_vj0024_01 := by
  k_fill
  exact ⟨rfl, rfl⟩
/-- what does not change while the references are resolved -/
structure Sit (n : Nat) (E : Nat → Ent) (X XR : Nat → Addr) (lo top : Nat → Nat) : Prop where
  xr : ∀ k, 3 ≤ k → XR k = X k
  top : ∀ c, c < 3 → 3 ≤ top c ∧ top c < n ∧ TwoE (E (top c)) ∧ XR c = X (top c)
  tree : Tree E lo 3 n
  inj : ∀ j k, 3 ≤ j → j < k → k < n → X j ≠ X k
/-- the pieces, some of them resolved -/
structure RS (w : World) (news : Led1) (rm : Addr) (n : Nat) (E : Nat → Ent) (X XR D : Nat → Addr) (S : List Nat) : Prop where
  tab : TabIs news
  rules : ∃ t0 t1 t2 m, (rm, rulesObj w (XR 0) (XR 1) (XR 2) t0 t1 t2 m) ∈ news
  dict : ∀ k, 3 ≤ k → k < n → (D k, dictOf [] 0) ∈ news
  piece : ∀ k, 3 ≤ k → k < n → (k ∈ S ∧ Res news XR D k (E k)) ∨ (k ∉ S ∧ Raw news X D k (E k))
  closed : ∀ k ∈ S, 3 ≤ k ∧ k < n ∧ ∀ c ∈ (E k).kids, c < 3 ∨ c ∈ S
section
variable {w : World} {news news' : Led1} {rm : Addr} {n : Nat} {E : Nat → Ent} {X XR D : Nat → Addr} {S : List Nat} {lo top : Nat → Nat}
theorem RS.at (R : RS w news rm n E X XR D S) (hx : ∀ k, 3 ≤ k → XR k = X k) {k : Nat} (h3 : 3 ≤ k) (hk : k < n) : (∃ sl, (X k, exprO (clsE (E k)) (D k) sl) ∈ news) ∧ ∀ m, E k ≠ .rule m := by
  rcases R.piece k h3 hk with ⟨_, h⟩ | ⟨_, h⟩
  · refine ⟨by rw [← hx k h3]; exact h.cls, fun m e => ?_⟩
    obtain ⟨a, ha, _⟩ := h
    rw [e] at ha; cases ha
  · exact ⟨h.cls, fun m e => by rw [e] at h; exact h⟩
theorem RS.keep (R : RS w news rm n E X XR D S) (hx : ∀ k, 3 ≤ k → XR k = X k) (T : TabIs news') (hs : ∀ q ∈ news, Plain q.2 → q ∈ news') : RS w news' rm n E X XR D S where
  tab := T
  rules := let ⟨t0, t1, t2, m, h⟩ := R.rules; ⟨t0, t1, t2, m, hs _ h fun _ e => nomatch e⟩
  dict k a b := hs _ (R.dict k a b) fun _ e => nomatch e
  piece k a b := by
    have g : ∀ q ∈ news, Soft q.2 → q ∈ news' := fun q hq s => hs q hq s.1
    rcases R.piece k a b with ⟨h1, h⟩ | ⟨h1, h⟩
    · exact .inl ⟨h1, h.keep (fun o ho e => hs _ ho fun vs z => by dsimp only at z; rw [e] at z; cases z) g⟩
    · exact .inr ⟨h1, h.keep (fun o ho e => hs _ ho fun vs z => by dsimp only at z; rw [e] at z; cases z) g⟩
  closed := R.closed
/-- what is left of the ledger behind a resolution -/
def KeepR (lo : Nat → Nat) (X : Nat → Addr) (k : Nat) (news news' : Led1) : Prop := ∀ q ∈ news, Plain q.2 → (∀ j, lo k ≤ j → j ≤ k → @Ne Nat q.1 (X j)) → q ∈ news'
def ResRet (w : World) (rm : Addr) (n : Nat) (E : Nat → Ent) (X XR D : Nat → Addr) (lo : Nat → Nat) (k : Nat) (S : List Nat) (news : Led1) (r : Value) (news' : Led1) : Prop :=
  r = .ref (X k) ∧ KeepR lo X k news news' ∧ ∃ S', RS w news' rm n E X XR D S' ∧ k ∈ S' ∧ (∀ j ∈ S, j ∈ S') ∧ ∀ j ∈ S', j ∈ S ∨ (lo k ≤ j ∧ j ≤ k)
/-- the ledger while the members of a piece are resolved -/
def RInv (w : World) (rm : Addr) (n : Nat) (E : Nat → Ent) (X XR D : Nat → Addr) (lo : Nat → Nat) (k : Nat) (S : List Nat) (news : Led1) (cc : Addr) (oc : Obj) (i : Nat) (Ld : Led1) : Prop :=
  (cc, oc) ∈ Ld ∧ oc.data = .cell (some (.ref rm)) ∧ (∀ q ∈ news, Plain q.2 → (∀ j, lo k ≤ j → j < k → @Ne Nat q.1 (X j)) → q ∈ Ld) ∧ (∀ j, 3 ≤ j → j < n → @Ne Nat cc (X j)) ∧
    ∃ S', RS w Ld rm n E X XR D S' ∧ (∀ j ∈ S, j ∈ S') ∧ (∀ j ∈ S', j ∈ S ∨ ∃ i' c, i' < i ∧ (E k).kids[i']? = some c ∧ 3 ≤ c ∧ lo c ≤ j ∧ j ≤ c) ∧ ∀ i' c, i' < i → (E k).kids[i']? = some c → c < 3 ∨ c ∈ S'
theorem sep_lt {e : Ent} (h : Sep lo e) {i i' o p : Nat} (hi : i' < i) (h1 : e.kids[i']? = some o) (h2 : e.kids[i]? = some p) (ho : 3 ≤ o) (hp : 3 ≤ p) : o < lo p := by
  have lt2 : i < e.kids.length := (List.getElem?_eq_some_iff.mp h2).1
  cases e with
  | rule m => exact absurd lt2 (by simp [Ent.kids])
  | word x => exact absurd lt2 (by simp [Ent.kids])
  | many a l m => simp [Ent.kids] at lt2; omega
  | look a g => simp [Ent.kids] at lt2; omega
  | choice a b =>
    simp only [Ent.kids, List.length_cons, List.length_nil] at lt2
    obtain rfl : i = 1 := by omega
    obtain rfl : i' = 0 := by omega
    cases h1; cases h2; exact h ho hp
  | chain a b =>
    simp only [Ent.kids, List.length_cons, List.length_nil] at lt2
    obtain rfl : i = 1 := by omega
    obtain rfl : i' = 0 := by omega
    cases h1; cases h2; exact h ho hp
theorem kids_two (e : Ent) : e.kids.length ≤ 10 := by cases e <;> simp [Ent.kids]
end
section
variable {prog : Program} {w : World} {rm : Addr} {n : Nat} {E : Nat → Ent} {X XR D : Nat → Addr} {lo top : Nat → Nat}
theorem res_told (St : Sit n E X XR lo top) (k : Nat) : 3 ≤ k → k < n → ∀ (S : List Nat) (news : Led1), (∀ j ∈ S, j < lo k ∨ k < j) → RS w news rm n E X XR D S →
    ToldG prog w (fnE (E k)) [.ref (X k), .ref rm] (120 + 20 * k) (960 + 60 * k) news (ResRet w rm n E X XR D lo k S news) := by
  induction k using Nat.strongRecOn with
  | ind k ih =>
    intro h3 hk S news hS R
    obtain ⟨t1, t2, t3, t4⟩ := St.tree k h3 hk
    have hkS : k ∉ S := fun h => by have := hS k h; omega
    have hraw : Raw news X D k (E k) := by
      rcases R.piece k h3 hk with ⟨h, _⟩ | ⟨_, h⟩
      · exact absurd h hkS
      · exact h
    rcases hraw.form with ⟨x, hx, hres⟩ | ⟨hfn, sl, M, ys, hms, hX, hM, hyl, href, hres⟩
    · -- a word
      rw [hx]
      refine (lit_told (prog := prog) (w := w) (x := X k) (rm := rm) (news := news)).mono (by omega) (by omega) fun r n' h => ?_
      obtain ⟨rfl, rfl⟩ := h
      refine ⟨rfl, fun q hq _ _ => hq, k :: S, ⟨R.tab, R.rules, R.dict, fun j a b => ?_, fun j hj => ?_⟩, .head _, fun j hj => .tail _ hj, fun j hj => ?_⟩
      · by_cases hjk : j = k
        · subst hjk; exact .inl ⟨.head _, hres XR (St.xr _ h3)⟩
        · rcases R.piece j a b with ⟨c, h⟩ | ⟨c, h⟩
          · exact .inl ⟨.tail _ c, h⟩
          · exact .inr ⟨fun z => by rcases List.mem_cons.mp z with z | z; exact hjk z; exact c z, h⟩
      · rcases List.mem_cons.mp hj with rfl | hj
        · exact ⟨h3, hk, fun c hc => by rw [hx] at hc; cases hc⟩
        · obtain ⟨a, b, c⟩ := R.closed j hj
          exact ⟨a, b, fun d hd => (c d hd).imp_right fun z => .tail _ z⟩
      · rcases List.mem_cons.mp hj with rfl | hj
        · exact .inr ⟨t2, Nat.le_refl _⟩
        · exact .inl hj
    · rw [hfn]
      refine ToldG.of_fun1 fun fun1 => ?_
      have atX := fun {j : Nat} (a : 3 ≤ j) (b : j < n) => (R.at St.xr a b).1
      have neX : ∀ q ∈ news, q.2.data ≠ .plain → ∀ j, 3 ≤ j → j < n → @Ne Nat q.1 (X j) := fun q hq hp j a b e => by
        obtain ⟨sl, hm⟩ := atX a b
        have := fun1 q hq _ hm e
        exact hp (by rw [this])
      have hMX := neX _ hM (fun e => nomatch e)
      have hdX := neX _ (R.dict k h3 hk) (fun e => nomatch e)
      refine comp_told (Inv := RInv w rm n E X XR D lo k S news) (dn := 100 + 20 * k) (un := 900 + 60 * k) (vals := (E k).kids.map fun c => Value.ref (XR c)) hms hX (R.dict k h3 hk) hM R.tab (by simp [hyl]) (by rw [List.length_map]; exact kids_two _) (by omega) (by omega)
        (fun cc oc Ld hoc hm hkeep hT hf => ⟨hm, hoc, fun q hq hp _ => hkeep q hq hp, fun j a b e => ?_, S, R.keep St.xr hT hkeep, fun j h => h, fun j h => .inl h, fun i' c h => by omega⟩)
        (fun cc oc i Ld hI => ⟨hI.2.2.1 _ hX (fun _ e => nomatch e) fun j a b => fun e => St.inj j k (by omega) b hk e.symm, hI.2.2.1 _ (R.dict k h3 hk) (fun _ e => nomatch e) fun j a b => hdX j (by omega) (by omega), hI.2.2.1 _ hM (fun _ e => nomatch e) fun j a b => hMX j (by omega) (by omega), hI.1⟩)
        (fun cc oc hoc i y v hy hv Ld hI => ?_) (fun cc oc t n' Ld hI ht hf => ?_)
      · obtain ⟨sl', hm'⟩ := atX a b
        have := hf _ hm _ (hkeep _ hm' fun _ e => nomatch e) e
        dsimp only at this
        rw [this] at hoc; cases hoc
      · obtain ⟨i1, i2, i3, i4, S', RS', s1, s2, s3⟩ := hI
        rw [List.getElem?_map] at hy hv
        obtain ⟨y, hy2, rfl⟩ := Option.map_eq_some_iff.mp hy
        obtain ⟨c, hc, rfl⟩ := Option.map_eq_some_iff.mp hv
        have hck := t3 c (List.mem_of_getElem? hc)
        rcases href i y c hy2 hc with ⟨hc3, d, tk, m1, m2⟩ | ⟨hc3, hck', rfl⟩
        · -- a reference
          have y1 := i3 _ m1 (fun _ e => nomatch e) fun j a b => neX _ m1 (fun e => nomatch e) j (by omega) (by omega)
          have y2 := i3 _ m2 (fun _ e => nomatch e) fun j a b => neX _ m2 (fun e => nomatch e) j (by omega) (by omega)
          obtain ⟨p1, p2, p3, p4⟩ := St.top c hc3
          obtain ⟨⟨sl', hm'⟩, _⟩ := RS'.at St.xr p1 p2
          obtain ⟨u0, u1, u2, mm, hr⟩ := RS'.rules
          have two : clsE (E (top c)) = 451 ∨ clsE (E (top c)) = 425 := by
            cases hE : E (top c) with
            | choice a b => exact .inl rfl
            | chain a b => exact .inr rfl
            | _ => rw [hE] at p3; exact p3.elim
          refine ⟨546, (rr_key 556 546 (by simp)).2.2.2, fun X F N q => rrLazy_K F X N y1 y2 q, (lazy_told (o := XR) hc3 two y1 hr (by rw [p4]; exact hm')).mono (by omega) (by omega) fun r n' h => ?_⟩
          obtain ⟨rfl, rfl⟩ := h
          refine ⟨rfl, i1, i2, i3, i4, S', RS', s1, fun j hj => (s2 j hj).imp_right fun ⟨i', c', a, b⟩ => ⟨i', c', by omega, b⟩, fun i' c' h h' => ?_⟩
          by_cases e : i' = i
          · subst e; rw [hc] at h'; cases h'; exact .inl hc3
          · exact s3 i' c' (by omega) h'
        · -- a piece
          have hcc : lo k ≤ lo c ∧ 3 ≤ c ∧ c < k := by rcases hck with h | h; omega; exact h
          obtain ⟨⟨sl', hm'⟩, hnr⟩ := RS'.at St.xr hc3 (Nat.lt_trans hck' hk)
          have hd' := RS'.dict c hc3 (Nat.lt_trans hck' hk)
          have cf := cls_fn hnr
          refine ⟨fnE (E c), (rr_key (clsE (E c)) (fnE (E c)) (by rcases cf with h | h | h | h | h <;> simp [h])).2.2.2, fun X F N q => rr_K F X N hm' hd' cf q,
            (ih c hck' hc3 (Nat.lt_trans hck' hk) S' Ld (fun j hj => ?_) RS').mono (by omega) (by omega) fun r n' h => ?_⟩
          · rcases s2 j hj with h | ⟨i', c', h1, h2, h4, h5, h6⟩
            · have := hS j h; omega
            · have := sep_lt t4 h1 h2 hc h4 hc3; omega
          · obtain ⟨rfl, kp, S'', RS'', u1, u2, u3⟩ := h
            refine ⟨by rw [St.xr c hc3], kp _ i1 (fun vs e => by dsimp only at e; rw [i2] at e; cases e) fun j a b => i4 j (by omega) (by omega), i2, fun q hq hp hn => kp q (i3 q hq hp hn) hp fun j a b => hn j (by omega) (by omega), i4, S'', RS'', fun j hj => u2 j (s1 j hj), fun j hj => ?_, fun i' c' h h' => ?_⟩
            · rcases u3 j hj with h | h
              · exact (s2 j h).imp_right fun ⟨i', c', a, b⟩ => ⟨i', c', by omega, b⟩
              · exact .inr ⟨i, c, by omega, hc, hc3, h.1, h.2⟩
            · by_cases e : i' = i
              · subst e; rw [hc] at h'; cases h'; exact .inr u1
              · exact (s3 i' c' (by omega) h').imp_right (u2 c')
      · obtain ⟨i1, i2, i3, i4, S', RS', s1, s2, s3⟩ := hI
        rw [List.length_map] at s2 s3
        have hX' := i3 _ hX (fun _ e => nomatch e) fun j a b => fun e => St.inj j k (by omega) b hk e.symm
        have oth : ∀ q ∈ Ld, @Ne Nat q.1 (X k) → q ∈ (X k, exprO (clsE (E k)) (D k) (sl (.ref t))) :: (t, tupO ((E k).kids.map fun c => Value.ref (XR c)) n') :: others (X k) Ld := fun q hq hn => .tail _ (.tail _ (List.mem_filter.mpr ⟨hq, decide_eq_true hn⟩))
        have ne9 : ∀ q ∈ Ld, q.2.data ≠ .plain → @Ne Nat q.1 (X k) := fun q hq hp e => hp (by rw [hf q hq _ hX' e])
        have soft : ∀ q ∈ Ld, Soft q.2 → q ∈ (X k, exprO (clsE (E k)) (D k) (sl (.ref t))) :: (t, tupO ((E k).kids.map fun c => Value.ref (XR c)) n') :: others (X k) Ld := fun q hq hs => oth q hq (ne9 q hq hs.2)
        have hkS' : k ∉ S' := fun h => by
          rcases s2 k h with h | ⟨i', c', h1, h2, h4, h5, h6⟩
          · exact hkS h
          · have := t3 c' (List.mem_of_getElem? h2); omega
        refine ⟨rfl, fun q hq hp hn => oth q (i3 q hq hp fun j a b => hn j a (by omega)) (hn k t2 (Nat.le_refl _)), k :: S', ⟨?_, ?_, fun j a b => ?_, fun j a b => ?_, fun j hj => ?_⟩, .head _, fun j hj => .tail _ (s1 j hj), fun j hj => ?_⟩
        · obtain ⟨op, ps, a, b, c⟩ := RS'.tab
          exact ⟨op, ps, oth _ a (ne9 _ a (by rw [b]; exact fun e => nomatch e)), b, c⟩
        · obtain ⟨u0, u1, u2, mm, hr⟩ := RS'.rules
          exact ⟨u0, u1, u2, mm, soft _ hr ⟨fun _ e => (nomatch e), fun e => (nomatch e)⟩⟩
        · exact soft _ (RS'.dict j a b) soft_dict
        · by_cases hjk : j = k
          · subst hjk; exact .inl ⟨.head _, hres _ XR t n' (St.xr _ h3) (.head _) (.tail _ (.head _))⟩
          · have hne : X j ≠ X k := by
              rcases Nat.lt_or_gt_of_ne hjk with h | h
              · exact St.inj j k a h hk
              · exact fun e => St.inj k j h3 h b e.symm
            rcases RS'.piece j a b with ⟨c, h⟩ | ⟨c, h⟩
            · exact .inl ⟨.tail _ c, h.keep (fun o ho _ => oth _ ho (by dsimp only; rw [St.xr j a]; exact hne)) soft⟩
            · exact .inr ⟨fun z => by rcases List.mem_cons.mp z with z | z; exact hjk z; exact c z, h.keep (fun o ho _ => oth _ ho hne) soft⟩
        · rcases List.mem_cons.mp hj with rfl | hj
          · refine ⟨h3, hk, fun c hc => ?_⟩
            obtain ⟨i', hi'⟩ := List.getElem?_of_mem hc
            exact (s3 i' c (List.getElem?_eq_some_iff.mp hi').1 hi').imp_right fun z => .tail _ z
          · obtain ⟨a, b, c⟩ := RS'.closed j hj
            exact ⟨a, b, fun d hd => (c d hd).imp_right fun z => .tail _ z⟩
        · rcases List.mem_cons.mp hj with rfl | hj
          · exact .inr ⟨t2, Nat.le_refl _⟩
          · rcases s2 j hj with h | ⟨i', c', h1, h2, h4, h5, h6⟩
            · exact .inl h
            · have := t3 c' (List.mem_of_getElem? h2)
              exact .inr ⟨by omega, by omega⟩
end
end VJ
end

section
open PySem PySem.W PyProof.Rows PySem.Calls PySem.Spec PyProof.V
namespace VJ
set_option maxRecDepth 100000
theorem fillR4 : K9 = K9 ∧ PySem.Challenge.rw_vj0024_01 = PySem.Challenge.rw_vj0024_01 := by
  k_fill
  exact ⟨rfl, rfl⟩
local macro_rules | `(tactic| k_mem) => `(tactic| (refine list_mem_of ?_; ktr_member))
local macro_rules | `(tactic| k_all) => `(tactic| assumption)
local macro_rules | `(tactic| k_room) => `(tactic| first | omega | (simp only [depth_under_make, depth_under_kw, depth_in1, depth_deeper]; omega))
local macro_rules | `(tactic| walk_at "pad 1") => `(tactic| fail)
local macro_rules | `(tactic| walk_at "call ref") => `(tactic| ((with_reducible show wpAny _ _ (call (Value.ref 581) _) _ _ _); k_dflt ((try dsimp only); refine halt_of ?_)))
local macro_rules | `(tactic| walk_at "exec For Name Call cons nil") => `(tactic| (k_here; (rename Fr _ _ _ _ => lF'); (with_unfolding_all refine' For_invVF lF' ?k1 ?k2 ?_; (case k1 => exact rfl); (case k2 => exact rfl); k_whole)))
local macro_rules | `(tactic| walk_at "pyIter ref") => `(tactic| ((with_reducible show wpAny _ _ (pyIter (Value.ref _)) (fun it s₂ => LoopAtV _ _ _ _ _ _ _ _ _ it s₂) _ _); k_dflt ((try dsimp only); refine halt_of ?_)))
theorem R.stopY {P : Nat → Ask} {at_ : Str → Nat → Bool} {len : Nat} {mm : Memo} {one : Nat} {least most c : Int} {p : Nat} (a : len ≤ p ∨ c = most) (b : least ≤ c) : R P at_ len mm (.mn one least most c p) (p : Int) mm := by
  have := R.stop (P := P) (at_ := at_) (mm := mm) (one := one) (least := least) a
  rwa [if_pos b] at this
theorem R.stopN {P : Nat → Ask} {at_ : Str → Nat → Bool} {len : Nat} {mm : Memo} {one : Nat} {least most c : Int} {p : Nat} (a : len ≤ p ∨ c = most) (b : ¬ least ≤ c) : R P at_ len mm (.mn one least most c p) (-1) mm := by
  have := R.stop (P := P) (at_ := at_) (mm := mm) (one := one) (least := least) a
  rwa [if_neg b] at this
theorem R.noneY {P : Nat → Ask} {at_ : Str → Nat → Bool} {len : Nat} {mm mm' : Memo} {one : Nat} {least most c : Int} {p : Nat} (a : ¬ (len ≤ p ∨ c = most)) (h : R P at_ len mm (.rd one p) (-1) mm') (b : least ≤ c) : R P at_ len mm (.mn one least most c p) (p : Int) mm' := by
  have := R.none (least := least) a h
  rwa [if_pos b] at this
theorem R.noneN {P : Nat → Ask} {at_ : Str → Nat → Bool} {len : Nat} {mm mm' : Memo} {one : Nat} {least most c : Int} {p : Nat} (a : ¬ (len ≤ p ∨ c = most)) (h : R P at_ len mm (.rd one p) (-1) mm') (b : ¬ least ≤ c) : R P at_ len mm (.mn one least most c p) (-1) mm' := by
  have := R.none (least := least) a h
  rwa [if_neg b] at this
/-- the names in the loop of `_law_many` -/
def mOf (u : Str → Option Value) (c : Int) (t : Tok) (p : Int) (t' : Tok) (m₀ : Str → Option Value) : Str → Option Value := fun z =>
  if z = Str.ofString "again" then u z else if z = Str.ofString "end" then u z else if z = Str.ofString "count" then some (.int c t) else if z = Str.ofString "place" then some (.int p t') else m₀ z
theorem mOf_of {m m₀ : Str → Option Value} {c p : Int} {t t' : Tok} (h1 : m (Str.ofString "count") = some (.int c t)) (h2 : m (Str.ofString "place") = some (.int p t'))
    (h3 : ∀ z, z ≠ Str.ofString "again" → z ≠ Str.ofString "end" → z ≠ Str.ofString "count" → z ≠ Str.ofString "place" → m z = m₀ z) : m = mOf m c t p t' m₀ := by
  funext z
  unfold mOf
  split
  · rfl
  · split
    · rfl
    · split
      · rename_i e; rw [e, h1]
      · split
        · rename_i e; rw [e, h2]
        · exact h3 z (by assumption) (by assumption) (by assumption) (by assumption)
section
variable (prog : Program) (w : World) (pl sd : Addr) (n len N : Nat) (E : Nat → Ent) (T : Nat → Addr) (P : Nat → Ask) (at_ : Str → Nat → Bool) (o p : Nat) (l m : Int) (mm : Memo)
/-- where the loop stands after i turns -/
def JM (m₀ : Str → Option Value) (i : Nat) (m₁ : Str → Option Value) (nx : List (Addr × Obj)) : Prop :=
  ∃ (u : Str → Option Value) (t t' : Tok) (p' : Nat) (mm₁ : Memo), m₁ = mOf u i t p' t' m₀ ∧ SInv prog w nx pl sd n len E T mm₁ ∧ Good len mm₁ ∧ left n len mm₁ ≤ N ∧ p + i ≤ p' ∧ p' ≤ len ∧
    (∀ v mm₂, R P at_ len mm₁ (.mn o l m i p') v mm₂ → R P at_ len mm (.mn o l m 0 p) v mm₂)
variable {prog w pl sd n len N E T P at_ o p l m mm}
theorem JM.start {m₀ : Str → Option Value} {nx : List (Addr × Obj)} {t t' : Tok} (h1 : m₀ (Str.ofString "count") = some (.int 0 t)) (h2 : m₀ (Str.ofString "place") = some (.int p t')) (S : SInv prog w nx pl sd n len E T mm) (g : Good len mm) (hl : left n len mm ≤ N) (hp : p ≤ len) :
    JM prog w pl sd n len N E T P at_ o p l m mm m₀ 0 m₀ nx :=
  ⟨m₀, t, t', p, mm, mOf_of h1 h2 fun _ _ _ _ _ => rfl, S, g, hl, Nat.le_refl _, hp, fun _ _ h => h⟩
end
section
variable {prog : Program} {w : World} {pl sd : Addr} {n len : Nat} {E : Nat → Ent} {T : Nat → Addr} {P : Nat → Ask} {at_ : Str → Nat → Bool} {val : Nat → Prop} {text : Str}
set_option maxHeartbeats 4000000 in
theorem many_step {N : Nat} (hat : ∀ x p, p ≤ len → at_ x p = true → p + x.length ≤ len) (hlen : text.length = len) (hl5 : len ≤ 5) (Rd : ReadC prog w pl sd n len E T P at_ val text N) : ManyC prog w pl sd n len E T P at_ val text N := by
  intro mm o p l m t1 t2 t3 t4 t5 news ho hv hone hp hg0 hl S
  refine told_def (by k_is) (by k_is) (by omega) (fun _ _ => BindsTo.of_eq rfl) (locs rfl) ?_
  intro dp un gd env outer base G pp loose mean mg mb s L h₁ tk hd hu F N' hlt B X TT
  (try dsimp only)
  k_fold
  k_steps
  unfold Halt
  rename IsRange _ _ _ _ _ _ _ _ => rg
  rename News _ _ _ _ => N1
  rename Fr _ _ _ _ => F1
  refine range_turns (n := len + 3) (JM prog w pl sd n len N E T P at_ o p l m mm _) rfl rg ?_ ?_ F1 N1 (JM.start rfl rfl S hg0 hl hp) ?_ ?_
  · rw [hlen]; have : len = 0 ∨ len = 1 ∨ len = 2 ∨ len = 3 ∨ len = 4 ∨ len = 5 := by omega
    rcases this with h | h | h | h | h | h <;> subst h <;> decide
  · rw [hlen]; have : len = 0 ∨ len = 1 ∨ len = 2 ∨ len = 3 ∨ len = 4 ∨ len = 5 := by omega
    rcases this with h | h | h | h | h | h <;> subst h <;> decide
  · rintro i ti m₁ nx h tk I oI hi ⟨u, t, t', p', mm₁, rfl, S1, hg1, hl1, hpi, hpl, hR1⟩ hI F2 N2
    clear F1 N1 rg
    dsimp only [mOf] at F2
    k_steps
    all_goals (try dsimp only [TurnBack])
    all_goals (try k_steps)
    all_goals (try dsimp only)
    · exact back_of (by assumption) (by assumption) ⟨_, _, mm₁, rfl, hR1 _ _ (R.stopY (.inl (by omega)) (by omega)), S1.sup fun q h => .tail _ h⟩
    · exact back_of (by assumption) (by assumption) ⟨_, _, mm₁, rfl, hR1 _ _ (R.stopN (.inl (by omega)) (by omega)), S1.sup fun q h => .tail _ h⟩
    · exact back_of (by assumption) (by assumption) ⟨_, _, mm₁, rfl, hR1 _ _ (R.stopY (.inr (by omega)) (by omega)), S1.sup fun q h => .tail _ h⟩
    · exact back_of (by assumption) (by assumption) ⟨_, _, mm₁, rfl, hR1 _ _ (R.stopN (.inr (by omega)) (by omega)), S1.sup fun q h => .tail _ h⟩
    have hgo : ¬ (len ≤ p' ∨ (i : Int) = m) := by omega
    unfold Halt
    rename News _ _ _ _ => N3
    rename Fr _ _ _ _ => F3
    refine told_use (xs := [(I, oI)]) (Rd mm₁ o p' _ _ _ nx ho hv hpl hg1 hl1 S1) B F3 X N3 TT rfl rfl rfl rfl (by simp only [depth_deeper]; omega) (by simp only [units_deeper]; omega) (fun q hq r hr e => hI r hr (by rw [List.mem_singleton.mp hq] at e; exact e.symm)) ?_ (fun _ _ _ _ _ _ _ _ _ _ h => h.elim)
    rintro r news4 h4 tk4 F4 N4 hI4 ⟨v, t4, mm', rfl, hR, S4⟩
    obtain ⟨hg4, hr4⟩ := hR.good hat hg1 hpl
    simp only [Ways.place] at hr4
    have hl4 : left n len mm' ≤ N := Nat.le_trans (left_mono hR.grow) hl1
    clear N3 F3
    k_steps
    · (try dsimp only [TurnBack])
      rename v = -2 => hv
      exact back_of (by assumption) (by assumption) ⟨_, _, mm', rfl, hR1 _ _ (R.manyX hgo (hv ▸ hR)), S4.sup fun q h => .tail _ h⟩
    · (try dsimp only [TurnBack])
      rename v = -1 => hv
      k_steps
      all_goals (try dsimp only)
      · exact back_of (by assumption) (by assumption) ⟨_, _, mm', rfl, hR1 _ _ (R.noneY hgo (hv ▸ hR) (by omega)), S4.sup fun q h => .tail _ h⟩
      · exact back_of (by assumption) (by assumption) ⟨_, _, mm', rfl, hR1 _ _ (R.noneN hgo (hv ▸ hR) (by omega)), S4.sup fun q h => .tail _ h⟩
    · (try dsimp only [TurnBack])
      rename v = (p' : Int) => hv
      k_steps
      all_goals (try dsimp only)
      exact back_of (by assumption) (by assumption) ⟨_, _, mm', rfl, hR1 _ _ (R.still hgo (hv ▸ hR) (by omega)), S4.sup fun q h => .tail _ h⟩
    · (try dsimp only [TurnBack])
      rename News _ _ _ _ => N5
      rename Fr _ _ _ _ => F5
      obtain ⟨q, rfl, hq1, hq2⟩ : ∃ q : Nat, v = q ∧ p' ≤ q ∧ q ≤ len := by
        rcases hr4 with h | h | h
        · omega
        · omega
        · exact h
      refine ⟨_, _, _, _, rfl, F5, N5, fun r hr q hq e => hI4 q hq r hr e.symm, ?_⟩
      refine ⟨_, _, _, q, mm', mOf_of rfl rfl ?_, S4, hg4, hl4, by omega, hq2, fun v2 mm2 h => hR1 _ _ (R.more hgo hR (by omega) ?_)⟩
      · intro z z1 z2 z3 z4
        simp only [if_neg z1, if_neg z2, if_neg z3, if_neg z4]
      · have e : ((i + 1 : Nat) : Int) = (i : Int) + 1 := by push_cast; rfl
        rw [e] at h
        exact h
  · rintro m₁ nx h tk ⟨u, t, t', p', mm₁, rfl, S1, hg1, hl1, hpi, hpl, hR1⟩ F2 N2
    omega
/-- the plans are whole: each valid key is a rule's or its own entry, its kids valid -/
structure WF (n : Nat) (E : Nat → Ent) (P : Nat → Ask) (val : Nat → Prop) : Prop where
  ent : ∀ k, k < n → val k → (∃ m, E k = .rule m ∧ m < n ∧ (E m).ask = some (P k)) ∨ (E k).ask = some (P k)
  kids : ∀ k, k < n → val k → ∀ c ∈ (P k).kids, c < n ∧ val c
  word : ∀ k x, k < n → E k = .word x → x.length ≤ 2
  least : ∀ k o l m, k < n → E k = .many o l m → l ≤ 1
theorem askJ_of {N : Nat} (W : WF n E P val) (hn : n ≤ 100) (hat : ∀ x p, p ≤ len → at_ x p = true → p + x.length ≤ len) (hat2 : ∀ (x : Str) (p : Nat), (Txt.slice text (some (p : Int)) (some ((p : Int) + x.length)) == x) = at_ x p) (hlen : text.length = len) (hl5 : len ≤ 5)
    (Rd : ReadC prog w pl sd n len E T P at_ val text N) (Mn : ManyC prog w pl sd n len E T P at_ val text N) : AskJ prog w pl sd n len E T P at_ val text N := by
  intro mm k j p t1 t2 t3 news hj e hk hp hg hl S
  cases hE : E j with
  | rule m => rw [hE] at e; cases e
  | word x =>
    rw [hE] at e; simp only [Ent.ask, Option.some.injEq] at e
    exact ask_word hj hE e.symm (W.word j x hj hE) hlen hl5 hp S hn (hat2 x p)
  | many o l m =>
    rw [hE] at e; simp only [Ent.ask, Option.some.injEq] at e
    exact ask_many Mn hj hE e.symm (hk o (by rw [← e]; exact .head _)) (W.least j o l m hj hE) hp hg hl S hn
  | look o g =>
    rw [hE] at e; simp only [Ent.ask, Option.some.injEq] at e
    exact ask_look Rd hj hE e.symm (hk o (by rw [← e]; exact .head _)) hp hg hl S hn
  | choice o o2 =>
    rw [hE] at e; simp only [Ent.ask, Option.some.injEq] at e
    exact ask_choice hat Rd hj hE e.symm (hk o (by rw [← e]; exact .head _)) (hk o2 (by rw [← e]; exact .tail _ (.head _))) hp hg hl S hn
  | chain o o2 =>
    rw [hE] at e; simp only [Ent.ask, Option.some.injEq] at e
    exact ask_chain hat Rd hj hE e.symm (hk o (by rw [← e]; exact .head _)) (hk o2 (by rw [← e]; exact .tail _ (.head _))) hp hg hl S hn
theorem Told.mono {f : Addr} {vs : List Value} {dn un dn' un' : Nat} {news : List (Addr × Obj)} {Ret : Value → List (Addr × Obj) → Prop} {Raise : List (Addr × Obj) → Prop} (h : Told prog w f vs dn un news Ret Raise) (a : dn ≤ dn') (b : un ≤ un') : Told prog w f vs dn' un' news Ret Raise :=
  fun A env outer base G p loose mean mg mb s Q E B X T hh hd hu => h A env outer base G p loose mean mg mb s Q E B X T hh (by omega) (by omega)
theorem askC_of {N : Nat} (W : WF n E P val) (hn : n ≤ 100) (J : AskJ prog w pl sd n len E T P at_ val text N) : AskC prog w pl sd n len E T P at_ val text N := by
  intro mm k p t1 t2 t3 news hk hv hp hg hl S
  rcases W.ent k hk hv with ⟨m, e, hm, hem⟩ | e
  · exact ask_rule J hk e hm hem (W.kids k hk hv) hp hg hl S hn
  · exact (J mm k k p t1 t2 t3 news hk e (W.kids k hk hv) hp hg hl S).mono (by omega) (by omega)
/-- the reading holds its contract -/
theorem read_told (W : WF n E P val) (hn : n ≤ 100) (hat : ∀ x p, p ≤ len → at_ x p = true → p + x.length ≤ len) (hat2 : ∀ (x : Str) (p : Nat), (Txt.slice text (some (p : Int)) (some ((p : Int) + x.length)) == x) = at_ x p) (hlen : text.length = len) (hl5 : len ≤ 5) (N : Nat) : ReadC prog w pl sd n len E T P at_ val text N := by
  induction N using Nat.strongRecOn with
  | ind N ih =>
    refine read_step ?_ fun M hM => ?_
    · calc n * (len + 1) ≤ 100 * (5 + 1) := Nat.mul_le_mul hn (by omega)
        _ ≤ 1000 := by omega
    · have Rd := ih M hM
      exact askC_of W hn (askJ_of W hn hat hat2 hlen hl5 Rd (many_step hat hlen hl5 Rd))
end
end VJ
end

section
open PySem PySem.W PyProof.Rows PySem.Calls PySem.Spec PyProof.V
namespace VJ
set_option maxRecDepth 100000
/-! the three rules grown one after the other -/
abbrev xrOf (X : Nat → Addr) (top : Nat → Nat) : Nat → Addr := fun k => if k < 3 then X (top k) else X k
structure LS (rest : Led1) (c : Nat) (pv : List Value) (E : Nat → Ent) (T X D : Nat → Addr) (top lo : Nat → Nat) (kvs : List (Str × Value)) : Prop where
  len : 3 ≤ pv.length ∧ pv.length ≤ 3 + 7 * c
  low : ∀ k, k < c → pv[k]? = some (.ref (T k)) ∧ E k = .rule (top k) ∧ (E k).Is rest (T k)
  pat : ∀ k, 3 ≤ k → k < pv.length → pv[k]? = some (.ref (T k))
  obj : GObj rest pv.length E T X D
  tree : Tree E lo 3 pv.length
  tops : ∀ k, k < c → 3 ≤ top k ∧ top k < pv.length ∧ TwoE (E (top k))
  ord : ∀ j k, j < k → k < c → top j < top k
  sep : ∀ j k, j < c → top j < k → k < pv.length → top j < lo k
  dict : kvs = (List.range c).map fun k => (nameOf k, Value.ref (X (top k)))
section
variable {rest rest2 rest3 : Led1} {c key n s : Nat} {pv pv2 : List Value} {E E2 : Nat → Ent} {T T2 X X2 D D2 : Nat → Addr} {top lo lo2 : Nat → Nat} {kvs : List (Str × Value)} {y T0 : Addr}
theorem LS.start {pv : List Value} (h : pv.length = 3) : LS rest 0 pv (fun _ => .rule 0) (fun _ => (0 : Nat)) (fun _ => (0 : Nat)) (fun _ => (0 : Nat)) (fun _ => 0) (fun _ => 0) [] where
  len := by omega
  low k h := by omega
  pat k a b := by omega
  obj := ⟨fun k a b => by omega, fun k a b => by omega, fun k a b => by omega, fun k a b => by omega, fun j k a b d => by omega⟩
  tree k a b := by omega
  tops k h := by omega
  ord j k a b := by omega
  sep j k a b d := by omega
  dict := rfl
theorem GObj.congrE {E' : Nat → Ent} {T' : Nat → Addr} (g : GObj rest n E T X D) (h : ∀ k, 3 ≤ k → E' k = E k ∧ T' k = T k) : GObj rest n E' T' X D :=
  ⟨fun k a b => by rw [(h k a).1, (h k a).2]; exact g.ent k a b, fun k a b => by rw [(h k a).1]; exact g.raw k a b, g.dict, g.lt, g.mono⟩
theorem Sep.same {e : Ent} (h : Sep lo e) (he : ∀ k ∈ e.kids, lo2 k = lo k) : Sep lo2 e := h.congr fun k hk _ => he k hk
theorem LS.turn (L : LS rest c pv E T X D top lo kvs) (hc : c < 3) (g : GRes rest rest2 E E2 T T2 X X2 D D2 pv pv2 7 key y) (hk : pv.length ≤ key ∧ TwoE (E2 key)) (sub : ∀ q ∈ rest2, q ∈ rest3) (hT : (Ent.rule key).Is rest3 T0) :
    y = X2 key ∧ ∃ lo', LS rest3 (c + 1) (pv2.set c (.ref T0)) (updF E2 c (.rule key)) (updF T2 c T0) X2 D2 (updF top c key) lo' (kvs ++ [(nameOf c, .ref y)]) := by
  obtain ⟨l1, l2⟩ := L.len
  obtain ⟨g1, g2⟩ := g.len
  obtain ⟨lo2, tr2⟩ := g.tree
  have hkey : key + 1 = pv2.length ∧ y = X2 key := by
    rcases g.key with ⟨h, _⟩ | ⟨_, h, h'⟩
    · omega
    · exact ⟨h, h'⟩
  have un : ∀ {α : Type} (f : Nat → α) (v : α) (k : Nat), k ≠ c → updF f c v k = f k := fun f v k h => if_neg h
  have ue : ∀ {α : Type} (f : Nat → α) (v : α), updF f c v c = v := fun f v => if_pos rfl
  have hl : (pv2.set c (Value.ref T0)).length = pv2.length := List.length_set
  refine ⟨hkey.2, fun k => if k < pv.length then lo k else lo2 k, ?_, fun k hk' => ?_, fun k a b => ?_, ?_, fun k a b => ?_, fun k hk' => ?_, fun j k a b => ?_, fun j k a b d => ?_, ?_⟩
  · rw [hl]; omega
  · by_cases h : k = c
    · subst h
      rw [ue, ue, ue]
      exact ⟨by rw [List.getElem?_set_self (by omega)], rfl, hT⟩
    · rw [un _ _ _ h, un _ _ _ h, un _ _ _ h, List.getElem?_set_ne (fun e => h e.symm)]
      obtain ⟨a, b, d⟩ := L.low k (by omega)
      have o := g.old k (by omega)
      rw [o.1, o.2.1, g.pat0 k (by omega)]
      exact ⟨a, b, d.mono fun q hq _ => sub q (g.sub q hq)⟩
  · rw [hl] at b
    rw [un _ _ _ (by omega), List.getElem?_set_ne (by omega)]
    by_cases h : k < pv.length
    · rw [g.pat0 k h, (g.old k h).2.1]; exact L.pat k a h
    · exact g.pat k (by omega) b
  · rw [hl]; exact (g.obj.sup sub).congrE fun k a => ⟨un _ _ _ (by omega), un _ _ _ (by omega)⟩
  · rw [hl] at b
    (try dsimp only)
    rw [un _ _ _ (by omega)]
    by_cases h : k < pv.length
    · obtain ⟨t1, t2, t3, t4⟩ := L.tree k a h
      rw [(g.old k h).1, if_pos h]
      refine ⟨t1, t2, fun d hd => ?_, Sep.same t4 fun d hd => if_pos ?_⟩
      · rcases t3 d hd with z | ⟨z, z', z''⟩
        · exact .inl z
        · exact .inr ⟨by rw [if_pos (by omega)]; exact z, z', z''⟩
      · rcases t3 d hd with z | ⟨z, z', z''⟩ <;> omega
    · obtain ⟨t1, t2, t3, t4⟩ := tr2 k (by omega) b
      rw [if_neg h]
      refine ⟨by omega, t2, fun d hd => ?_, t4.congr fun d hd h3 => if_neg ?_⟩
      · rcases t3 d hd with z | ⟨z, z', z''⟩
        · exact .inl z
        · exact .inr ⟨by rw [if_neg (by omega)]; exact z, by omega, z''⟩
      · rcases t3 d hd with z | ⟨z, z', z''⟩ <;> omega
  · rw [hl]
    by_cases h : k = c
    · subst h
      rw [ue, un _ _ _ (by omega)]
      exact ⟨by omega, by omega, hk.2⟩
    · rw [un _ _ _ h]
      obtain ⟨a, b, d⟩ := L.tops k (by omega)
      rw [un _ _ _ (by omega), (g.old _ b).1]
      exact ⟨a, by omega, d⟩
  · have hj := L.tops j (by omega)
    rw [un _ _ j (by omega)]
    by_cases h : k = c
    · subst h
      rw [ue]; omega
    · rw [un _ _ _ h]; exact L.ord j k a (by omega)
  · rw [hl] at d
    by_cases h : j = c
    · subst h
      rw [ue] at b; omega
    · rw [un _ _ _ h] at b ⊢
      have hj := L.tops j (by omega)
      (try dsimp only)
      by_cases hkl : k < pv.length
      · rw [if_pos hkl]; exact L.sep j k (by omega) b hkl
      · rw [if_neg hkl]
        have := (tr2 k (by omega) d).1
        omega
  · rw [L.dict, List.range_succ, List.map_append, List.map_cons, List.map_nil, ue, hkey.2]
    congr 1
    refine List.map_congr_left fun k hk' => ?_
    have hk2 := List.mem_range.mp hk'
    rw [un _ _ _ (by omega), (g.old _ (L.tops k hk2).2.1).2.2.1]
end
theorem nodup_map_on {α β : Type} {f : α → β} : ∀ {l : List α}, l.Nodup → (∀ a ∈ l, ∀ b ∈ l, f a = f b → a = b) → (l.map f).Nodup
  | [], _, _ => List.nodup_nil
  | x :: l, hn, h => by
    obtain ⟨h1, h2⟩ := List.nodup_cons.mp hn
    rw [List.map_cons, List.nodup_cons]
    refine ⟨fun hm => ?_, nodup_map_on h2 fun a ha b hb => h a (.tail _ ha) b (.tail _ hb)⟩
    obtain ⟨a, ha, e⟩ := List.mem_map.mp hm
    have := h a (.tail _ ha) x (.head _) e
    exact h1 (this ▸ ha)
abbrev rtOf (top : Nat → Nat) (k : Nat) : Nat := if k < 3 then top k else k
def askOf (E : Nat → Ent) (top : Nat → Nat) (k : Nat) : Ask := ((E (rtOf top k)).ask).getD (.word (Str.ofString ""))
section
variable {w : World} {rest news : Led1} {pv : List Value} {E : Nat → Ent} {T X D : Nat → Addr} {top lo : Nat → Nat} {kvs : List (Str × Value)} {pl rm : Addr} {n : Nat}
theorem Ent.ask_kids {e : Ent} {a : Ask} (h : e.ask = some a) : a.kids = e.kids := by cases e <;> first | (cases h; done) | (cases h; rfl)
theorem GObj.ask (g : GObj rest n E T X D) {k : Nat} (h3 : 3 ≤ k) (hk : k < n) : ∃ a, (E k).ask = some a := by
  have := g.raw k h3 hk
  cases h : E k with
  | rule m => rw [h] at this; exact this.elim
  | _ => exact ⟨_, rfl⟩
theorem LS.rt (L : LS rest 3 pv E T X D top lo kvs) {k : Nat} (hk : k < pv.length) : 3 ≤ rtOf top k ∧ rtOf top k < pv.length := by
  unfold rtOf
  split
  · rename_i h; exact ⟨(L.tops k h).1, (L.tops k h).2.1⟩
  · exact ⟨by omega, hk⟩
theorem LS.ask (L : LS rest 3 pv E T X D top lo kvs) {k : Nat} (hk : k < pv.length) : (E (rtOf top k)).ask = some (askOf E top k) := by
  obtain ⟨a, ha⟩ := L.obj.ask (L.rt hk).1 (L.rt hk).2
  unfold askOf
  rw [ha]; rfl
theorem LS.pv_eq (L : LS rest 3 pv E T X D top lo kvs) : pv = (List.range pv.length).map fun k => Value.ref (T k) := by
  refine List.ext_getElem? fun k => ?_
  rw [List.getElem?_map]
  by_cases hk : k < pv.length
  · rw [List.getElem?_range hk]
    by_cases h3 : k < 3
    · exact (L.low k h3).1
    · exact L.pat k (by omega) hk
  · rw [List.getElem?_eq_none (by omega), List.getElem?_eq_none (by simp; omega)]; rfl
theorem LS.pstat (L : LS rest 3 pv E T X D top lo kvs) (sub : ∀ q ∈ rest, q ∈ news) {np : Nat} (hpl : (pl, listOf pv.toArray np) ∈ news) : PStat news pl pv.length E T where
  list := ⟨np, by rw [← L.pv_eq]; exact hpl⟩
  tup k hk := by
    by_cases h3 : k < 3
    · exact (L.low k h3).2.2.mono fun q hq _ => sub q hq
    · exact (L.obj.ent k (by omega) hk).mono fun q hq _ => sub q hq
theorem LS.sit (L : LS rest 3 pv E T X D top lo kvs) : Sit pv.length E X (xrOf X top) lo top where
  xr k h := if_neg (by omega)
  top c h := ⟨(L.tops c h).1, (L.tops c h).2.1, (L.tops c h).2.2, if_pos h⟩
  tree := L.tree
  inj j k a b d := fun e => by
    have h1 := L.obj.mono j k a b d
    have h2 := L.obj.lt k (by omega) d
    rw [e] at h1
    exact Nat.lt_irrefl _ (Nat.lt_trans h1 h2)
theorem LS.wf (L : LS rest 3 pv E T X D top lo kvs) : WF pv.length E (askOf E top) (fun _ => True) where
  ent k hk _ := by
    have := L.ask hk
    by_cases h3 : k < 3
    · have e : rtOf top k = top k := if_pos h3
      rw [e] at this
      exact .inl ⟨top k, (L.low k h3).2.1, (L.tops k h3).2.1, this⟩
    · have e : rtOf top k = k := if_neg h3
      rw [e] at this
      exact .inr this
  kids k hk _ c hc := by
    rw [Ent.ask_kids (L.ask hk)] at hc
    obtain ⟨h1, h2⟩ := L.rt hk
    have l := L.len
    rcases (L.tree _ h1 h2).2.2.1 c hc with z | ⟨_, _, z⟩
    · exact ⟨by omega, trivial⟩
    · exact ⟨by omega, trivial⟩
  word k x hk he := by
    have h3 : 3 ≤ k := Nat.le_of_not_lt fun h => by rw [(L.low k h).2.1] at he; cases he
    have := L.obj.raw k h3 hk
    rw [he] at this
    exact this.1
  least k o l m hk he := by
    have h3 : 3 ≤ k := Nat.le_of_not_lt fun h => by rw [(L.low k h).2.1] at he; cases he
    have := L.obj.raw k h3 hk
    rw [he] at this
    exact this.1
theorem LS.start_rs (L : LS rest 3 pv E T X D top lo kvs) (sub : ∀ q ∈ rest, q ∈ news) {ps : Array Value} (hp : TriplesOk ps.toList) (h9 : (((389 : Nat), tabObj ps) : Addr × Obj) ∈ news) {t0 t1 t2 : Tok} {m : Nat} (hr : (rm, rulesObj w (X (top 0)) (X (top 1)) (X (top 2)) t0 t1 t2 m) ∈ news) : RS w news rm pv.length E X (xrOf X top) D [] where
  tab := ⟨tabObj ps, ps, h9, rfl, hp, rfl⟩
  rules := ⟨t0, t1, t2, m, hr⟩
  dict k a b := sub _ (L.obj.dict k a b)
  piece k a b := .inr ⟨(fun h => nomatch h), (L.obj.raw k a b).mono sub (fun _ _ => rfl) rfl⟩
  closed k h := nomatch h
/-- the pieces that the matching comes to -/
def ksOf (top : Nat → Nat) (n : Nat) (S : List Nat) : List Nat := 0 :: 1 :: 2 :: (List.range n).filter fun k => decide (3 ≤ k ∧ k ∈ S ∧ k ≠ top 0 ∧ k ≠ top 1 ∧ k ≠ top 2)
theorem mem_ksOf {S : List Nat} {k : Nat} : k ∈ ksOf top n S ↔ k < 3 ∨ (3 ≤ k ∧ k < n ∧ k ∈ S ∧ k ≠ top 0 ∧ k ≠ top 1 ∧ k ≠ top 2) := by
  unfold ksOf
  simp only [List.mem_cons, List.mem_filter, List.mem_range, decide_eq_true_eq]
  constructor
  · rintro (h | h | h | ⟨h, h'⟩)
    · omega
    · omega
    · omega
    · exact .inr ⟨h'.1, h, h'.2⟩
  · rintro (h | ⟨h1, h2, h3⟩)
    · omega
    · exact .inr (.inr (.inr ⟨h2, h1, h3⟩))
theorem LS.top_ne (L : LS rest 3 pv E T X D top lo kvs) : top 0 < top 1 ∧ top 1 < top 2 := ⟨L.ord 0 1 (by omega) (by omega), L.ord 1 2 (by omega) (by omega)⟩
theorem LS.rt_inj (L : LS rest 3 pv E T X D top lo kvs) {S : List Nat} {a b : Nat} (ha : a ∈ ksOf top pv.length S) (hb : b ∈ ksOf top pv.length S) (e : rtOf top a = rtOf top b) : a = b := by
  have t := L.top_ne
  have c3 : ∀ k, k < 3 → k = 0 ∨ k = 1 ∨ k = 2 := fun k h => by omega
  unfold rtOf at e
  rcases mem_ksOf.mp ha with h | ⟨h1, h2, h3, h4, h5, h6⟩
  · rcases mem_ksOf.mp hb with h' | ⟨h1', h2', h3', h4', h5', h6'⟩
    · rw [if_pos h, if_pos h'] at e
      rcases c3 a h with rfl | rfl | rfl <;> rcases c3 b h' with rfl | rfl | rfl <;> first | rfl | omega
    · rw [if_pos h, if_neg (by omega)] at e
      rcases c3 a h with rfl | rfl | rfl <;> omega
  · rcases mem_ksOf.mp hb with h' | ⟨h1', h2', h3', h4', h5', h6'⟩
    · rw [if_neg (by omega), if_pos h'] at e
      rcases c3 b h' with rfl | rfl | rfl <;> omega
    · rw [if_neg (by omega), if_neg (by omega)] at e; exact e
theorem ksOf_lt {S : List Nat} (hn : 3 ≤ n) {k : Nat} (h : k ∈ ksOf top n S) : k < n := by
  rcases mem_ksOf.mp h with h | ⟨_, h, _⟩
  · omega
  · exact h
theorem LS.mstat (L : LS rest 3 pv E T X D top lo kvs) {S : List Nat} (R : RS w news rm pv.length E X (xrOf X top) D S) (ht : ∀ c, c < 3 → top c ∈ S) :
    MStat news (xrOf X top) (fun k => D (rtOf top k)) (askOf E top) (ksOf top pv.length S) 0 ∧ ∀ k ∈ ksOf top pv.length S, ∀ c ∈ (askOf E top k).kids, c ∈ ksOf top pv.length S := by
  have l := L.len
  have hrS : ∀ k ∈ ksOf top pv.length S, rtOf top k ∈ S := fun k hk => by
    unfold rtOf
    rcases mem_ksOf.mp hk with h | ⟨h1, h2, h3, _⟩
    · rw [if_pos h]; exact ht k h
    · rw [if_neg (by omega)]; exact h3
  have hrt : ∀ k ∈ ksOf top pv.length S, 3 ≤ rtOf top k ∧ rtOf top k < pv.length := fun k hk => L.rt (ksOf_lt l.1 hk)
  refine ⟨⟨fun k hk => ?_, fun k hk => ?_, ?_⟩, fun k hk c hc => ?_⟩
  · obtain ⟨h1, h2⟩ := hrt k hk
    rcases R.piece _ h1 h2 with ⟨_, h⟩ | ⟨h, _⟩
    · obtain ⟨a, ha, sl, nm, hn, hm, r⟩ := h
      rw [L.ask (ksOf_lt l.1 hk)] at ha
      obtain rfl := Option.some.inj ha
      refine ⟨sl, nm, hn, ?_, r⟩
      have e : xrOf X top (rtOf top k) = xrOf X top k := by
        unfold xrOf rtOf
        by_cases h3 : k < 3
        · rw [if_pos h3, if_pos h3, if_neg (by have := (L.tops k h3).1; omega)]
        · rw [if_neg h3]
      rw [← e]; exact hm
    · exact absurd (hrS k hk) h
  · obtain ⟨h1, h2⟩ := hrt k hk
    exact ⟨[], .inl ⟨rfl, 0, R.dict _ h1 h2⟩, (fun q hq => nomatch hq), Nat.le_refl _⟩
  · refine nodup_map_on ?_ fun a ha b hb e => ?_
    · unfold ksOf
      have hf : ((List.range pv.length).filter fun k => decide (3 ≤ k ∧ k ∈ S ∧ k ≠ top 0 ∧ k ≠ top 1 ∧ k ≠ top 2)).Nodup := List.Pairwise.filter _ List.nodup_range
      have h3 : ∀ k ∈ (List.range pv.length).filter fun k => decide (3 ≤ k ∧ k ∈ S ∧ k ≠ top 0 ∧ k ≠ top 1 ∧ k ≠ top 2), 3 ≤ k := fun k hk => (of_decide_eq_true (List.mem_filter.mp hk).2).1
      simp only [List.nodup_cons, List.mem_cons, not_or]
      refine ⟨⟨by omega, by omega, fun h => ?_⟩, ⟨by omega, fun h => ?_⟩, fun h => ?_, hf⟩
      · have := h3 _ h; omega
      · have := h3 _ h; omega
      · have := h3 _ h; omega
    · refine L.rt_inj ha hb ?_
      have dinj : ∀ j k, 3 ≤ j → j < k → k < pv.length → D j ≠ D k := fun j k a b d e => by
        have h1 := L.obj.lt j a (by omega)
        have h2 := L.obj.mono j k a b d
        have h4 : @LT.lt Nat _ (D j) (D k) := Nat.lt_trans h1 h2
        rw [e] at h4
        exact Nat.lt_irrefl _ h4
      have e' : D (rtOf top a) = D (rtOf top b) := e
      rcases Nat.lt_trichotomy (rtOf top a) (rtOf top b) with h | h | h
      · exact absurd e' (dinj _ _ (hrt a ha).1 h (hrt b hb).2)
      · exact h
      · exact absurd e'.symm (dinj _ _ (hrt b hb).1 h (hrt a ha).2)
  · rw [Ent.ask_kids (L.ask (ksOf_lt l.1 hk))] at hc
    obtain ⟨h1, h2⟩ := hrt k hk
    rcases (R.closed _ (hrS k hk)).2.2 c hc with z | z
    · exact mem_ksOf.mpr (.inl z)
    · have cc := R.closed c z
      have tr := (L.tree _ h1 h2).2.2.1 c hc
      have ne : ∀ i, i < 3 → c ≠ top i := fun i hi e => by
        rcases tr with q | ⟨q1, q2, q3⟩
        · omega
        · have := L.sep i (rtOf top k) hi (by omega) h2
          have := (L.tree c q2 (by omega)).2.1
          omega
      exact mem_ksOf.mpr (.inr ⟨cc.1, cc.2.1, z, ne 0 (by omega), ne 1 (by omega), ne 2 (by omega)⟩)
end
end VJ
end

section
open PySem PySem.W PyProof.Rows PySem.Calls PySem.Spec PyProof.V
namespace VJ
set_option maxRecDepth 100000
theorem fillQ3 : K9 = K9 ∧ PySem.Challenge.rw_vj0024_01 = PySem.Challenge.rw_vj0024_01 := by
  k_fill
  exact ⟨rfl, rfl⟩
local macro_rules | `(tactic| k_mem) => `(tactic| (refine list_mem_of ?_; ktr_member))
local macro_rules | `(tactic| k_all) => `(tactic| assumption)
local macro_rules | `(tactic| k_room) => `(tactic| first | omega | (simp only [depth_under_make, depth_under_kw, depth_in1, depth_deeper]; omega))
/-- the next statement is to be halted at -/
def Mark : Prop := True
local macro_rules | `(tactic| walk_at "exec For Tuple Call") => `(tactic| (k_dflt ((try dsimp only); refine halt_of ?_)))
local macro_rules | `(tactic| walk_at "exec If") => `(tactic| ((rename Mark => mk'); k_dflt ((try dsimp only); refine halt_of ?_)))
local macro_rules | `(tactic| walk_at "call builtin:getattr") => `(tactic| ((with_reducible show wpAny _ _ (call (Value.builtin "getattr") [_, _, _]) _ _ _); k_dflt ((try dsimp only); refine halt_of ?_)))
local macro_rules | `(tactic| walk_at "getMethod ref") => `(tactic| ((with_reducible show wpAny _ _ (getMethod (Value.ref _) (Str.ofString "get") _) _ _ _); k_dflt (refine kdg_method (knd := PySem.intKind _ _) (by k_asm) (by k_mem) (by assumption) ?_)))
local macro_rules | `(tactic| walk_at "getMethod ref") => `(tactic| ((with_reducible show wpAny _ _ (getMethod (Value.ref _) (Str.ofString "_uncached_match") _) _ _ _); k_dflt ((try dsimp only); refine halt_of ?_)))
local macro_rules | `(tactic| walk_at "call ref") => `(tactic| (k_dflt ((try dsimp only); refine halt_of ?_)))
local macro_rules | `(tactic| walk_at "call builtin:dict.get") => `(tactic| (k_dflt ((try dsimp only); refine halt_of ?_)))
local macro_rules | `(tactic| walk_at "call builtin:len") => `(tactic| ((with_reducible show wpAny _ _ (call (Value.builtin "len") [Value.ref _]) _ _ _); k_dflt ((try dsimp only); refine halt_of ?_)))
local macro_rules | `(tactic| walk_at "compareOp Is ref ref") => `(tactic| ((with_reducible show wpAny _ _ (compareOp CmpOp.Is (Value.ref _) (Value.ref _)) _ _ _); first | (with_reducible refine wpAny_is_ref_self ?_) | k_dflt ((try dsimp only); refine halt_of ?_)))
local macro_rules | `(tactic| walk_at "truthy str") => `(tactic| (k_dflt ((try dsimp only); refine halt_of ?_)))
local macro_rules | `(tactic| walk_at "getAttr ref") => `(tactic| ((with_reducible show wpAny _ _ (getAttr (Value.ref _) (Str.ofString "pos") _) _ _ _); k_dflt ((try dsimp only); refine halt_of ?_)))
local macro_rules | `(tactic| walk_at "getAttr ref") => `(tactic| ((with_reducible show wpAny _ _ (getAttr (Value.ref _) (Str.ofString "expr") _) _ _ _); k_dflt ((try dsimp only); refine halt_of ?_)))
local macro_rules | `(tactic| walk_at "getAttr ref") => `(tactic| ((with_reducible show wpAny _ _ (getAttr (Value.ref _) (Str.ofString "name") _) _ _ _); k_dflt ((try dsimp only); refine halt_of ?_)))
local macro_rules | `(tactic| walk_at "exec Raise some none") => `(tactic| (k_dflt (refine Raise_c rfl ?_)))
local macro_rules | `(tactic| walk_at "setAttr ref") => `(tactic| (k_dflt ((try dsimp only); refine halt_of ?_)))
local macro_rules | `(tactic| walk_at "binaryOp Add") => `(tactic| ((with_reducible show wpAny _ _ (binaryOp _ (Value.ref _) (Value.ref _)) _ _ _); k_dflt ((try dsimp only); refine halt_of ?_)))
local macro_rules | `(tactic| walk_at "compareOp In int ref") => `(tactic| (k_dflt ((try dsimp only); refine halt_of ?_)))
local macro_rules | `(tactic| walk_at "setItem ref int") => `(tactic| (k_dflt ((try dsimp only); refine halt_of ?_)))
local macro_rules | `(tactic| walk_at "subscriptTail") => `(tactic| (k_dflt ((try dsimp only); refine halt_of ?_)))
/-- what is no dict stays -/
abbrev Stay (news news' : Led1) : Prop := ∀ q ∈ news, q.2.cls ≠ .type "dict" → q ∈ news'
def ResIs (news : Led1) (r : Value) (v : Int) (p : Nat) : Prop := (v = -1 ∧ r = .none) ∨ ∃ (q : Nat) (nd : Addr), v = (q : Int) ∧ r = .ref nd ∧ NodeAt news nd p q
theorem ResIs.keep {news news' : Led1} {r : Value} {v : Int} {p : Nat} {z : Addr} (h : ResIs news r v p) (K : Kept z news news') : ResIs news' r v p := by
  rcases h with h | ⟨q, nd, e1, e2, h⟩
  · exact .inl h
  · exact .inr ⟨q, nd, e1, e2, h.keep (fun q hq hc => K.plain hq hc) fun q hq => K.at hq⟩
theorem ResIs.rep {news : Led1} {r : Value} {v : Int} {p : Nat} (h : ResIs news r v p) : RepIs news (some r) (some v) p := by
  rcases h with ⟨rfl, rfl⟩ | ⟨q, nd, rfl, rfl, h⟩
  · exact .inr (.inr (.inl ⟨rfl, rfl⟩))
  · exact .inr (.inr (.inr ⟨q, nd, rfl, rfl, h⟩))
section
variable (prog : Program) (w : World) (X D : Nat → Addr) (P : Nat → Ask) (ks : List Nat) (n len B : Nat) (cd er dE : Addr) (at_ : Str → Nat → Bool) (text : Str)
def CoreC (N : Nat) : Prop := ∀ (mm : Memo) (cs : List (Nat × Addr)) (k p : Nat) (t2 t3 : Tok) (news : Led1), k ∈ ks → p ≤ len → Good len mm → left n len mm ≤ N → MInv prog w news X D P ks len B cd er dE mm cs →
  Told prog w 297 [.ref (X k), .str text t2, .int p t3, .ref cd, .ref er] (2 * N + 110) (32 * N + 1000) news
    (fun r news' => ∃ v mm' cs', v ≠ -2 ∧ ((∀ a ∈ cs, a ∈ cs') ∧ Stay news news') ∧ ResIs news' r v p ∧ R P at_ len mm (.rd k p) v mm' ∧ MInv prog w news' X D P ks len B cd er dE mm' cs')
    (fun news' => (∃ mm', R P at_ len mm (.rd k p) (-2) mm') ∧ ∃ mm' cs', MInv prog w news' X D P ks len B cd er dE mm' cs')
def UmC (N : Nat) : Prop := ∀ (mm : Memo) (cs : List (Nat × Addr)) (k p : Nat) (t2 t3 : Tok) (news : Led1), k ∈ ks → p ≤ len → Good len mm → left n len mm ≤ N → MInv prog w news X D P ks len B cd er dE mm cs →
  Told prog w (P k).um [.ref (X k), .str text t2, .int p t3, .ref cd, .ref er] (2 * N + 111) (32 * N + 1016) news
    (fun r news' => ∃ v mm' cs', v ≠ -2 ∧ ((∀ a ∈ cs, a ∈ cs') ∧ Stay news news') ∧ ResIs news' r v p ∧ R P at_ len mm (.as k p) v mm' ∧ MInv prog w news' X D P ks len B cd er dE mm' cs')
    (fun news' => (∃ mm', R P at_ len mm (.as k p) (-2) mm') ∧ ∃ mm' cs', MInv prog w news' X D P ks len B cd er dE mm' cs')
/-- the names of `match_core` at its start -/
abbrev m5 (a : Addr) (text : Str) (t2 : Tok) (p : Int) (t3 : Tok) (cd er : Addr) : Str → Option Value := fun y => List.lookup y [(Str.ofString "error", .ref er), (Str.ofString "cache", .ref cd), (Str.ofString "pos", .int p t3), (Str.ofString "text", .str text t2), (Str.ofString "self", .ref a)]
abbrev mC (u : Str → Option Value) (m₀ : Str → Option Value) : Str → Option Value := fun z => if z = Str.ofString "oid" then u z else if z = Str.ofString "expr_cache" then u z else m₀ z
theorem mC_self (m : Str → Option Value) : mC m m = m := by
  funext z
  unfold mC
  split
  · rfl
  · split <;> rfl
theorem mC_of {m m₀ : Str → Option Value} (h : ∀ z, z ≠ Str.ofString "oid" → z ≠ Str.ofString "expr_cache" → m z = m₀ z) : m = mC m m₀ := by
  funext z
  unfold mC
  split
  · rfl
  · split
    · rfl
    · exact h z (by assumption) (by assumption)
theorem toC {G h : Heap} {L : Addr} {m m₀ : Str → Option Value} (F : Fr G L h m) (e : ∀ z, z ≠ Str.ofString "oid" → z ≠ Str.ofString "expr_cache" → m z = m₀ z) : Fr G L h (mC m m₀) := by
  rw [← mC_of e]; exact F
variable {prog w X D P ks n len B cd er dE at_ text}
theorem cut_at {A : Around} {t : Sem Flow} {Q : Flow → Shared → Prop} {E : Value → Shared → Prop} {s : Shared} (Mid : Shared → Prop) (h1 : wpAny (model prog w) A t (fun fl s' => fl = .next ∧ Mid s') E s) (h2 : ∀ s', Mid s' → Q .next s') : wpAny (model prog w) A t Q E s :=
  wpAny_mono h1 (fun fl s' z => by obtain ⟨rfl, z⟩ := z; exact h2 s' z) fun _ _ e => e
/-- behind the loop: the piece owns a cache -/
def Mid1 (prog : Program) (w : World) (X D : Nat → Addr) (P : Nat → Ask) (ks : List Nat) (len B : Nat) (cd er dE : Addr) (G : Heap) (L : Addr) (s : Shared) (m₀ : Str → Option Value) (mm : Memo) (cs : List (Nat × Addr)) (news : Led1) (k : Nat) (s' : Shared) : Prop :=
  ∃ h' tk' news' cs' e u, ((∀ a ∈ cs, a ∈ cs') ∧ Stay news news') ∧ s' = { s with heap := h', toks := tk' } ∧ Fr G L h' (mC u m₀) ∧ u (Str.ofString "expr_cache") = some (.ref e) ∧ News G L h' news' ∧ MInv prog w news' X D P ks len B cd er dE mm cs' ∧ (k, e) ∈ cs'
theorem keep_um {w : World} (ak : Ask) : keepIn (K9 w.params) (.ref ak.um) = true := by
  have key : ∀ f : Addr, (f = (356 : Nat) ∨ f = (415 : Nat) ∨ f = (441 : Nat) ∨ f = (478 : Nat) ∨ f = (517 : Nat)) → keepIn (K9 w.params) (.ref f) = true := by
    rintro f (rfl | rfl | rfl | rfl | rfl) <;> k_is
  apply key
  cases ak
  · exact .inl rfl
  · exact .inr (.inr (.inr (.inr rfl)))
  · exact .inr (.inr (.inr (.inl rfl)))
  · exact .inr (.inr (.inl rfl))
  · exact .inr (.inl rfl)
abbrev mE (u : Str → Option Value) (e : Addr) (m₀ : Str → Option Value) : Str → Option Value := fun z => if z = Str.ofString "oid" then u z else if z = Str.ofString "expr_cache" then some (.ref e) else m₀ z
theorem mE_of {u : Str → Option Value} {e : Addr} {m₀ : Str → Option Value} (h : u (Str.ofString "expr_cache") = some (.ref e)) : mC u m₀ = mE u e m₀ := by
  funext z
  unfold mC mE
  split
  · rfl
  · split
    · rename_i z'; rw [z', h]
    · rfl
abbrev mN (u : Str → Option Value) (r : Value) (m₀ : Str → Option Value) : Str → Option Value := fun z => if z = Str.ofString "node" then some r else if z = Str.ofString "oid" then u z else if z = Str.ofString "expr_cache" then u z else m₀ z
theorem toN {G h : Heap} {L : Addr} {m m₀ : Str → Option Value} {r : Value} (F : Fr G L h m) (h1 : m (Str.ofString "node") = some r) (e : ∀ z, z ≠ Str.ofString "node" → z ≠ Str.ofString "oid" → z ≠ Str.ofString "expr_cache" → m z = m₀ z) : Fr G L h (mN m r m₀) := by
  have : m = mN m r m₀ := by
    funext z
    unfold mN
    split
    · rename_i z'; rw [z', h1]
    · split
      · rfl
      · split
        · rfl
        · exact e z (by assumption) (by assumption) (by assumption)
  rw [← this]; exact F
/-- behind the second statement: the node is known -/
def Mid2 (prog : Program) (w : World) (X D : Nat → Addr) (P : Nat → Ask) (ks : List Nat) (len B : Nat) (cd er dE : Addr) (at_ : Str → Nat → Bool) (G : Heap) (L : Addr) (s : Shared) (m₀ : Str → Option Value) (mm : Memo) (cs : List (Nat × Addr)) (news : Led1) (k p : Nat) (s' : Shared) : Prop :=
  ∃ h' tk' news' cs' mm' v r u, ((∀ a ∈ cs, a ∈ cs') ∧ Stay news news') ∧ s' = { s with heap := h', toks := tk' } ∧ Fr G L h' (mN u r m₀) ∧ News G L h' news' ∧ MInv prog w news' X D P ks len B cd er dE mm' cs' ∧ R P at_ len mm (.rd k p) v mm' ∧ ((v = -2 ∧ r = .ref 251) ∨ (v ≠ -2 ∧ ResIs news' r v p))
set_option maxHeartbeats 4000000 in
theorem core_step {N : Nat} (hsz : n * (len + 1) ≤ 1000) (hn : n ≤ 100) (hks : ∀ k ∈ ks, k < n) (hlen : text.length = len) (hl5 : len ≤ 5) (hB : B ≤ 50) (U : ∀ M, M < N → UmC prog w X D P ks n len B cd er dE at_ text M) : CoreC prog w X D P ks n len B cd er dE at_ text N := by
  intro mm cs k p t2 t3 news hk hp hg hl M
  refine told_def (by k_is) (by k_is) (by omega) (fun _ _ => BindsTo.of_eq rfl) (locs rfl) ?_
  intro dp un gd env outer base G pp loose mean mg mb s L h₁ tk hd hu F N' hlt Bl Xg TT
  (try dsimp only)
  k_fold
  have F5 : Fr G L h₁ (m5 (X k) text t2 p t3 cd er) := F
  clear F
  have hrl : recursionLimit = 1000 := rfl
  have hcl : cLine = 9900 := rfl
  obtain ⟨sl, nm, hnm, hX, hSl⟩ := M.expr k hk
  obtain ⟨ps, hO, hps, hcase⟩ := M.oid k hk
  have htop : (cd == sysModules) = false := by rw [beq_eq_false_iff_ne]; exact M.top.1
  have hcs : cs.length ≤ 100 := by
    have := nodup_len (l := cs.map (·.1)) (m := List.range n) M.own fun x hx => by
      obtain ⟨a, ha, rfl⟩ := List.mem_map.mp hx
      exact List.mem_range.mpr (hks _ (M.memo a ha).1)
    rw [List.length_map, List.length_range] at this
    omega
  k_steps
  unfold Halt
  rename Fr _ _ _ _ => F1
  rename News _ _ _ _ => N1
  refine cut_at (Mid1 prog w X D P ks len B cd er dE G L s (m5 (X k) text t2 p t3 cd er) mm cs news k) ?_ ?_
  · refine for_tup F1 rfl ?_
    k_steps
    unfold Halt
    rename Fr _ _ _ _ => F2
    rename News _ _ _ _ => N2
    try clear F1 N1
    refine oids_K (kls_cls _) F2 Xg N2 (.tail _ hX) (hO.keep (fun q hq _ => .tail _ hq) (fun q hq _ => .tail _ hq)) (.head _) rfl (by simp only [depth_deeper]; omega) (by simp only [units_deeper]; omega) fun T ts nT h3 tk3 F3 N3 hT hPs => ?_
    clear F2 N2
    have F3' : Fr G L h3 (mC (m5 (X k) text t2 p t3 cd er) (m5 (X k) text t2 p t3 cd er)) := by rw [mC_self]; exact F3
    refine ⟨T, _, ts.map .ref, nT, _, _, rfl, rfl, rfl, hT, F3', N3, ?_⟩
    clear F3 F3' N3
    rcases hcase with ⟨hno, hold, hpB⟩ | ⟨i, e, ps', hi, rfl, hpB⟩
    · refine tup_inv (fun m nw => ∃ u, m = mC u (m5 (X k) text t2 p t3 cd er) ∧ (T, tupO (ts.map .ref) nT) ∈ nw ∧ MInv prog w nw X D P ks len B cd er dE mm cs ∧ PairsAre nw ts ps ∧ OidsAre nw (D k) ps ∧ (X k, (⟨.ref (P k).cls, some (D k), .plain, sl⟩ : Obj)) ∈ nw ∧ (∀ q ∈ ps, DAt nw q.2) ∧ Stay news nw) ?_ ?_ _ _
        ⟨_, rfl, hT, M.sup fun q hq => .tail _ hq, hPs, hO.keep (fun q hq _ => .tail _ hq) (fun q hq _ => .tail _ hq), .tail _ hX, fun q hq => let ⟨o, h, hc⟩ := hps q hq; ⟨o, .tail _ h, hc⟩, fun q hq _ => .tail _ hq⟩
      · rintro m5' nw ⟨u, rfl, hT4, M4, hPs4, hO4, hX4, hps4, hst4⟩ h4 tk4 F4 N4
        obtain ⟨oc, hcd, hoc⟩ := M4.cache
        k_steps
        unfold Halt
        rename Fr _ _ _ _ => F5
        rename News _ _ _ _ => N5
        rename (_ == sysModules) = false => hlo
        rename Addr => d5
        rename Obj => o5
        rename Obj.IsDictOf (intKind prog w) _ [] => hdi
        rename ∀ p ∈ nw, p.1 < _ => hlt5
        refine kda_len (knd := intKind prog w) N5 (.tail _ hcd) hoc htop (by rw [cacheOf_length]; omega) ?_
        rw [cacheOf_length]
        k_steps
        unfold Halt
        rename Fr _ _ _ _ => F5
        rename News _ _ _ _ => N5
        refine set_item_any F5 N5 (.tail _ hcd) hoc (intKind_is _ _ _ _) (by rw [cacheOf_length, sizeLine_eq]; omega) fun h6 o6 news6 F6 N6 K6 hcd6 hoc6 => ?_
        try clear F5 N5
        k_steps
        unfold Halt
        rename Fr _ _ _ _ => F5
        rename News _ _ _ _ => N5
        refine kda_len (knd := intKind prog w) N5 hcd6 hoc6 htop (by rw [cacheOf_stored (a := (k, _)), cacheOf_length, List.length_append]; simp; omega) ?_
        rw [cacheOf_stored (a := (k, _)), cacheOf_length, List.length_append]
        k_steps
        unfold Halt
        rename Fr _ _ _ _ => F7
        rename News _ _ _ _ => N7
        obtain ⟨n1, n2, n3, n4, n5, n6, n7, n8⟩ := M4.nd
        have st6 : ∀ q ∈ nw, q.2.cls ≠ .type "dict" → q ∈ news6 := fun q hq hc => K6.plain (.tail _ hq) hc
        have hO6 : OidsAre news6 (D k) ps := hO4.keep st6 fun q hq e => K6.keep q (.tail _ hq) (by rw [e]; exact (n3 k hk).symm)
        have hX6 := st6 _ hX4 ref_ne_dict
        refine oids_K (kls_cls _) F7 Xg N7 (.tail _ (.tail _ (.tail _ hX6))) (hO6.keep (fun q hq _ => .tail _ (.tail _ (.tail _ hq))) (fun q hq _ => .tail _ (.tail _ (.tail _ hq)))) (.head _) rfl (by simp only [depth_deeper]; omega) (by simp only [units_deeper]; omega) fun T2 ts2 nT2 h8 tk8 F8 N8 hT2 hPs2 => ?_
        try clear F7 N7
        k_steps
        unfold Halt
        rename Fr _ _ _ _ => F9
        rename News _ _ _ _ => N9
        refine add_oids F9 N9 (.tail _ (.head _)) hT2 (by rw [hPs2.length]; omega) fun T3 n3' h10 news10 F10 N10 s10 hT3 => ?_
        try clear F9 N9
        k_steps
        unfold Halt
        rename Fr _ _ _ _ => F11
        rename News _ _ _ _ => N11
        obtain ⟨es, nE, hdE, hes⟩ := hO6.form
        refine set_oids (kls_cls _) F11 Xg N11 (s10 _ (.tail _ (.tail _ (.tail _ hX6)))) (s10 _ (.tail _ (.tail _ (.tail _ hdE)))) hes fun h12 news12 hsh12 tk12 n12 F12 N12 K12 hd12 => ?_
        try clear F11 N11
        k_steps
        rename Fr _ _ _ _ => F13
        rename News _ _ _ _ => N13
        have s6 : ∀ q ∈ news6, q ∈ news10 := fun q hq => s10 _ (.tail _ (.tail _ (.tail _ hq)))
        have hcd5 : d5 ≠ cd := (Nat.ne_of_lt (hlt5 _ hcd)).symm
        obtain ⟨oDk, hDk⟩ := hO4.mem
        have hDk5 : d5 ≠ D k := (Nat.ne_of_lt (hlt5 _ hDk)).symm
        refine ⟨_, _, news12, cs ++ [(k, d5)], d5, _, ⟨fun _ h => List.mem_append_left _ h, fun q hq hc => K12.plain (s6 _ (st6 q (hst4 q hq hc) hc)) hc⟩, rfl, toC F13 fun z z1 z2 => ?_, rfl, N13,
          M4.push hk hno hps4 hpB (fun q hq => Nat.ne_of_lt (hlt5 q hq)) (fun q hq hc => K12.plain (s6 _ (st6 q hq hc)) hc) (fun q hq => let ⟨o, ho⟩ := K6.at (.tail _ hq); K12.at (q := (q.1, o)) (s6 _ ho)) (fun a ha => K12.dat (let ⟨o, ho, hc⟩ := K6.dat (let ⟨o, ho, hc⟩ := ha; ⟨o, .tail _ ho, hc⟩); ⟨o, s6 _ ho, hc⟩)) (fun q hq e1 e2 => K12.keep q (s6 _ (K6.keep q (.tail _ hq) e1)) e2)
            ⟨o6, K12.keep _ (s6 _ hcd6) (n3 k hk), by have := hoc6; rwa [cacheOf_stored (a := (k, _))] at this⟩ ⟨o5, K12.keep _ (s6 _ (K6.keep _ (.head _) hcd5)) hDk5, hdi⟩
            (.inr ⟨hsh12, tk12, T3, _, n12, n3', hd12, K12.plain hT3 tup_ne_dict, ⟨?_, (hPs2.keep fun q hq hc => K12.plain (s10 _ hq) hc)⟩⟩) (beq_eq_false_iff_ne.mp hlo), List.mem_append_right _ (List.mem_singleton.mpr rfl)⟩
        · simp only [mC, if_neg z1, if_neg z2]
        · have hp := K12.plain (s10 _ (.tail _ (.tail _ (.head _)))) tup_ne_dict
          have e : (((cs.length + [(k, d5)].length : Nat) : Int) - 1) = (cs.length : Int) := by simp
          rw [e] at hp
          exact ⟨_, _, hp⟩
      · rintro v hv m5' nw ⟨u, rfl, hT4, M4, hPs4, hO4, hX4, hps4, hst4⟩ h4 tk4 J o hJ F4 N4
        obtain ⟨t, ht, rfl⟩ := List.mem_map.mp hv
        obtain ⟨q, hq, tkq, nq, hpq⟩ := hPs4.mem t ht
        obtain ⟨oc, hcd, hoc⟩ := M4.cache
        have fin : ∀ x, valueAt (cacheOf 0 cs) q.1 = some x → ∃ a ∈ cs, x = .ref a.2 ∧ @Ne Nat a.2 q.2 := fun x hx => by
          obtain ⟨_, _, a, ha, e⟩ := cacheOf_key (valueAt_mem hx)
          exact ⟨a, ha, e, fun z => hold q hq a ha z.symm⟩
        k_steps
        unfold Halt
        rename Fr _ _ _ _ => F5
        rename News _ _ _ _ => N5
        cases hva : valueAt (cacheOf 0 cs) q.1 with
        | none =>
          refine kdg_get1 (knd := intKind prog w) N5 (.tail _ hcd) hoc htop (intKind_is _ _ _ _) none hva ?_
          try dsimp only [Option.getD]
          k_steps
          rename Fr _ _ _ _ => F6
          rename News _ _ _ _ => N6
          refine ⟨_, _, _, nw, rfl, F6, N6, fun p hp q hq => by rw [List.mem_singleton.mp hq]; exact hJ p hp, hT4, _, mC_of fun z z1 z2 => ?_, hT4, M4, hPs4, hO4, hX4, hps4, hst4⟩
          simp only [mC, if_neg z1, if_neg z2]
        | some x =>
          obtain ⟨a, ha, rfl, hne⟩ := fin x hva
          refine kdg_get1 (knd := intKind prog w) N5 (.tail _ hcd) hoc htop (intKind_is _ _ _ _) (some _) hva ?_
          try dsimp only [Option.getD]
          k_steps
          unfold Halt
          rename Fr _ _ _ _ => F5
          rename News _ _ _ _ => N5
          obtain ⟨_, oa, kva, hma, hda, _⟩ := M4.memo a ha
          obtain ⟨oq, hmq, _⟩ := hps4 q hq
          refine wpAny_is_ref_other hne (N5 _ (.tail _ hma)).1 (N5 _ (.tail _ hmq)).1 (by obtain ⟨_, _, x, _⟩ := hda; rw [x.1]; decide) ?_
          k_steps
          rename Fr _ _ _ _ => F6
          rename News _ _ _ _ => N6
          refine ⟨_, _, _, nw, rfl, F6, N6, fun p hp q hq => by rw [List.mem_singleton.mp hq]; exact hJ p hp, hT4, _, mC_of fun z z1 z2 => ?_, hT4, M4, hPs4, hO4, hX4, hps4, hst4⟩
          simp only [mC, if_neg z1, if_neg z2]
    · cases ts with
      | nil => exact hPs.elim
      | cons t ts =>
        obtain ⟨⟨tkq, nq, hpq⟩, hPs⟩ := hPs
        rw [List.map_cons]
        intro h4 tk4 J o hJ F4 N4
        obtain ⟨oc, hcd, hoc⟩ := M.cache
        k_steps
        unfold Halt
        rename Fr _ _ _ _ => F5
        rename News _ _ _ _ => N5
        refine kdg_get1 (knd := intKind prog w) N5 (.tail _ (.tail _ hcd)) hoc htop (intKind_is _ _ _ _) (some _) (by have := cacheOf_at (i := 0) hi; rwa [Nat.zero_add] at this) ?_
        try dsimp only [Option.getD]
        k_steps
        try dsimp only [TurnBack]
        try k_steps
        rename Fr _ _ _ _ => F6
        rename News _ _ _ _ => N6
        refine ⟨_, _, _, cs, e, _, ⟨fun _ h => h, fun q hq _ => .tail _ (.tail _ hq)⟩, rfl, toC F6 fun z z1 z2 => ?_, rfl, N6, M.sup fun q hq => .tail _ (.tail _ hq), List.mem_of_getElem? hi⟩
        simp only [mC, if_neg z1, if_neg z2]
  · try clear F1 N1
    rintro s' ⟨h2, tk2, news2, cs2, e, u, hcs2, rfl, F2, hu, N2, M2, hke⟩
    rw [mE_of hu] at F2
    clear hu hcase hps hO hSl hX
    have mk : Mark := trivial
    k_steps
    unfold Halt
    rename Mark => mk
    clear mk
    rename Fr _ _ _ _ => F3
    rename News _ _ _ _ => N3
    refine cut_at (Mid2 prog w X D P ks len B cd er dE at_ G L s (m5 (X k) text t2 p t3 cd er) mm cs news k p) ?_ ?_
    · obtain ⟨_, oe, kve, hme, hde, hkve, hrep⟩ := M2.memo _ hke
      have hloe : (e == sysModules) = false := by rw [beq_eq_false_iff_ne]; exact M2.top.2 _ hke
      k_steps
      unfold Halt
      rename Fr _ _ _ _ => F5
      rename News _ _ _ _ => N5
      rcases hrep p hp with ⟨hm, hv⟩ | ⟨hm, hv⟩ | ⟨hm, hv⟩ | ⟨q, nd, hm, hv, hnd⟩
      · refine kda_in (knd := intKind prog w) N5 hme hde hloe (intKind_is _ _ _ _) false (by rw [hv]; rfl) ?_
        k_steps
        unfold Halt
        rename Fr _ _ _ _ => F6
        rename News _ _ _ _ => N6
        have hle : ∀ {kvs : List (Int × Value)}, (kvs.map (·.1)).Nodup → (∀ q ∈ kvs, ∃ p : Nat, p ≤ len ∧ q.1 = p) → kvs.length ≤ sizeLine := fun {kvs} h1 h2 => by
          have := nodup_len (l := kvs.map (·.1)) (m := (List.range (len + 1)).map Int.ofNat) h1 fun x hx => by
            obtain ⟨a, ha, rfl⟩ := List.mem_map.mp hx
            obtain ⟨p, hp, e⟩ := h2 a ha
            rw [e]
            exact List.mem_map.mpr ⟨p, List.mem_range.mpr (by omega), rfl⟩
          rw [List.length_map, List.length_map, List.length_range] at this
          rw [sizeLine_eq]; omega
        refine set_item_any F6 N6 hme hde (intKind_is _ _ _ _) (hle (keysNodup_of_isDictOf hde) hkve) fun h6 o6 news6 F7 N7 K6 hme6 hde6 => ?_
        have M6 := M2.put hke K6 hp hkve hrep ⟨o6, hme6, hde6⟩ (.inr (.inl ⟨rfl, rfl⟩))
        clear F6 N6
        k_steps
        unfold Halt
        rename Fr _ _ _ _ => F8
        rename News _ _ _ _ => N8
        obtain ⟨sl6, nm6, _, hX6, _⟩ := M6.expr k hk
        obtain ⟨ps6, hO6, _⟩ := M6.oid k hk
        obtain ⟨es6, n6, hd6, hes6⟩ := hO6.form
        refine um_K F8 Xg N8 hX6 hd6 hes6 ?_
        clear hX6 hO6 hd6 hes6
        dsimp only
        refine callWith_K Xg (keep_um (P k)) ?_
        k_steps
        unfold Halt
        rename Fr _ _ _ _ => F9
        rename News _ _ _ _ => N9
        have hlt' := left_set (v := -2) (n := n) (len := len) (hks k hk) hp hm
        obtain ⟨M', rfl⟩ : ∃ M', N = M' + 1 := ⟨N - 1, by omega⟩
        refine told_use (xs := []) (U M' (by omega) (mm.set k p (-2)) cs2 k p _ _ news6 hk hp (hg.set (.inl rfl)) (by omega) M6) Bl F9 Xg N9 TT rfl rfl rfl rfl (by simp only [depth_deeper]; omega) (by simp only [units_deeper]; omega) (fun _ h => nomatch h) ?_ ?_
        · rintro r news10 h10 tk10 F10 N10 - ⟨v, mm', cs', hv2, hcs', hres, hR, M10⟩
          simp only [List.nil_append] at N10
          clear F9 N9
          k_steps
          unfold Halt
          rename Fr _ _ _ _ => F11
          rename News _ _ _ _ => N11
          obtain ⟨_, oe2, kve2, hme2, hde2, hkve2, hrep2⟩ := M10.memo _ (hcs'.1 _ hke)
          refine set_item_any F11 N11 hme2 hde2 (intKind_is _ _ _ _) (hle (keysNodup_of_isDictOf hde2) hkve2) fun h12 o12 news12 F12 N12 K12 hme12 hde12 => ?_
          have hres12 := hres.keep K12
          have M12 := M10.put (hcs'.1 _ hke) K12 hp hkve2 hrep2 ⟨o12, hme12, hde12⟩ hres12.rep
          clear F11 N11
          k_steps
          rename Fr _ _ _ _ => F13
          rename News _ _ _ _ => N13
          refine ⟨_, _, news12, cs', _, v, r, _, ⟨fun a ha => hcs'.1 _ (hcs2.1 _ ha), fun q hq hc => K12.plain (hcs'.2 _ (K6.plain (hcs2.2 q hq hc) hc) hc) hc⟩, rfl, toN F13 rfl fun z z1 z2 z3 => ?_, N13, M12, .ask hm hR, .inr ⟨hv2, hres12⟩⟩
          simp only [mE, if_neg z1, if_neg z2, if_neg z3]
        · rintro er1 t1 us1 news10 g10 h10 tk10 F10 R10 U10 ⟨⟨mm', hR⟩, hM⟩
          exact leave_onS Bl F10 R10 U10 fun h11 R11 _ U11 => oops_of R11 U11 ⟨⟨_, .ask hm hR⟩, hM⟩
      · refine kda_in (knd := intKind prog w) N5 hme hde hloe (intKind_is _ _ _ _) true (by rw [hv]; rfl) ?_
        k_steps
        unfold Halt
        rename News _ _ _ _ => N6
        refine kda_item (knd := intKind prog w) N6 hme hde (intKind_is _ _ _ _) hv ?_
        k_steps
        rename Fr _ _ _ _ => F7
        rename News _ _ _ _ => N7
        refine ⟨_, _, _, cs2, mm, _, _, _, hcs2, rfl, toN F7 rfl fun z z1 z2 z3 => ?_, N7, M2, .told hm, .inl ⟨rfl, rfl⟩⟩
        simp only [mE, if_neg z1, if_neg z2, if_neg z3]
      · refine kda_in (knd := intKind prog w) N5 hme hde hloe (intKind_is _ _ _ _) true (by rw [hv]; rfl) ?_
        k_steps
        unfold Halt
        rename News _ _ _ _ => N6
        refine kda_item (knd := intKind prog w) N6 hme hde (intKind_is _ _ _ _) hv ?_
        k_steps
        rename Fr _ _ _ _ => F7
        rename News _ _ _ _ => N7
        refine ⟨_, _, _, cs2, mm, _, _, _, hcs2, rfl, toN F7 rfl fun z z1 z2 z3 => ?_, N7, M2, .told hm, .inr ⟨by decide, .inl ⟨rfl, rfl⟩⟩⟩
        simp only [mE, if_neg z1, if_neg z2, if_neg z3]
      · refine kda_in (knd := intKind prog w) N5 hme hde hloe (intKind_is _ _ _ _) true (by rw [hv]; rfl) ?_
        k_steps
        unfold Halt
        rename News _ _ _ _ => N6
        refine kda_item (knd := intKind prog w) N6 hme hde (intKind_is _ _ _ _) hv ?_
        k_steps
        rename Fr _ _ _ _ => F7
        rename News _ _ _ _ => N7
        refine ⟨_, _, _, cs2, mm, _, _, _, hcs2, rfl, toN F7 rfl fun z z1 z2 z3 => ?_, N7, M2, .told hm, .inr ⟨by omega, .inr ⟨q, nd, rfl, rfl, hnd⟩⟩⟩
        simp only [mE, if_neg z1, if_neg z2, if_neg z3]
    · rintro s' ⟨h3, tk3, news3, cs3, mm3, v, r, u3, hcs3, rfl, F4, N4, M4, hR, hv⟩
      try clear F3 N3 F2 N2
      rcases hv with ⟨rfl, rfl⟩ | ⟨hv2, hres⟩
      · k_steps
        unfold Halt
        rename Fr _ _ _ _ => F6
        rename News _ _ _ _ => N6
        refine lre_K F6 Xg N6 rfl (by simp only [depth_deeper]; omega) (by simp only [units_deeper]; omega) fun a7 tp7 d7 o7 h7 tk7 F7 N7 G7 => ?_
        k_steps
        refine ⟨a7, _, _, 106, rfl, Xg.keeps F7.keep, (G7.nw _ (.head _)).1, rfl, by k_is, by k_is, rfl, rfl, ?_⟩
        refine leave_raise_d (cls := .ref 106) Bl G7.keep (G7.nw _ (.head _)).2 (G7.nw _ (.head _)).1 rfl rfl rfl rfl (G7.nw _ (.tail _ (.head _))).2 (G7.nw _ (.tail _ (.head _))).1 F6 N6 fun h8 R8 U8 => oops_of R8 U8 ⟨⟨_, hR⟩, _, _, M4⟩
      · obtain ⟨y1, y2, y3, y4, y5, y6, g1, g2, g3, c1, c3, c5, w1, i2, d2, w3, nE, her, hdE, hw3⟩ := M4.err
        obtain ⟨sl4, nm4, hnm4, hX4, hSl4⟩ := M4.expr k hk
        obtain ⟨ps4, hO4, _⟩ := M4.oid k hk
        obtain ⟨oD4, hD4⟩ := hO4.mem
        rcases hres with ⟨rfl, rfl⟩ | ⟨q, nd, rfl, rfl, hnd⟩
        · k_steps
          unfold Halt
          rename Fr _ _ _ _ => F5
          rename News _ _ _ _ => N5
          refine exc_pos_K F5 Xg N5 her hdE rfl (by simp only [depth_deeper]; omega) (by simp only [units_deeper]; omega) fun h6 tk6 F6 N6 => ?_
          clear F5 N5
          k_steps
          · unfold Halt
            rename Fr _ _ _ _ => F7
            rename News _ _ _ _ => N7
            refine name_K F7 Xg N7 hX4 hSl4 hD4 fun tn => ?_
            k_steps
            unfold Halt
            cases hb : ((nm4.length : Int) != 0) with
            | true =>
              refine KXt.truthy hb (by omega) fun tk8 => ?_
              k_steps
              unfold Halt
              rename Fr _ _ _ _ => F8
              rename News _ _ _ _ => N8
              refine set_err_expr F8 Xg N8 her hdE fun h9 news9 n9 F9 N9 K9 hd9 => ?_
              have her9 := K9.plain her ref_ne_dict
              clear F8 N8
              k_steps
              unfold Halt
              rename Fr _ _ _ _ => F10
              rename News _ _ _ _ => N10
              refine set_err_pos F10 Xg N10 her9 hd9 fun h11 news11 n11 F11 N11 K11 hd11 => ?_
              have her11 := K11.plain her9 ref_ne_dict
              have M9 := M4.err_set K9 ⟨y1, y2, y3, y4, y5, y6, g1, g2, g3, c1, c3, c5, w1, i2, d2, _, n9, her9, hd9, .inr ⟨k, hk, rfl⟩⟩
              have M11 := M9.err_set K11 ⟨y1, y2, y3, y4, y5, y6, g1, g2, g3, c1, c3, c5, w1, p, t3, _, n11, her11, hd11, .inr ⟨k, hk, rfl⟩⟩
              clear F10 N10
              k_steps
              all_goals (try dsimp only)
              rename Fr _ _ _ _ => F12
              rename News _ _ _ _ => N12
              exact back_of F12 N12 ⟨-1, mm3, cs3, by decide, ⟨hcs3.1, fun q hq hc => K11.plain (K9.plain (hcs3.2 q hq hc) hc) hc⟩, .inl ⟨rfl, rfl⟩, hR, M11⟩
            | false =>
              refine KXt.truthy hb (by omega) fun tk8 => ?_
              k_steps
              unfold Halt
              rename Fr _ _ _ _ => F9
              rename News _ _ _ _ => N9
              rcases hw3 with rfl | ⟨j, hj, rfl⟩
              · refine exc_expr0_K F9 Xg N9 her hdE rfl (by simp only [depth_deeper]; omega) (by simp only [units_deeper]; omega) fun h10 tk10 F10 N10 => ?_
                clear F9 N9
                k_steps
                unfold Halt
                rename Fr _ _ _ _ => F11
                rename News _ _ _ _ => N11
                refine ga_none_K F11 Xg N11 rfl (by simp only [depth_deeper]; omega) (by simp only [units_deeper]; omega) fun h12 tk12 F12 N12 => ?_
                clear F11 N11
                k_steps
                unfold Halt
                rename Fr _ _ _ _ => F8
                rename News _ _ _ _ => N8
                refine set_err_expr F8 Xg N8 her hdE fun h9 news9 n9 F9 N9 K9 hd9 => ?_
                have her9 := K9.plain her ref_ne_dict
                clear F8 N8
                k_steps
                unfold Halt
                rename Fr _ _ _ _ => F10
                rename News _ _ _ _ => N10
                refine set_err_pos F10 Xg N10 her9 hd9 fun h11 news11 n11 F11 N11 K11 hd11 => ?_
                have her11 := K11.plain her9 ref_ne_dict
                have M9 := M4.err_set K9 ⟨y1, y2, y3, y4, y5, y6, g1, g2, g3, c1, c3, c5, w1, i2, d2, _, n9, her9, hd9, .inr ⟨k, hk, rfl⟩⟩
                have M11 := M9.err_set K11 ⟨y1, y2, y3, y4, y5, y6, g1, g2, g3, c1, c3, c5, w1, p, t3, _, n11, her11, hd11, .inr ⟨k, hk, rfl⟩⟩
                clear F10 N10
                k_steps
                all_goals (try dsimp only)
                rename Fr _ _ _ _ => F12
                rename News _ _ _ _ => N12
                exact back_of F12 N12 ⟨-1, mm3, cs3, by decide, ⟨hcs3.1, fun q hq hc => K11.plain (K9.plain (hcs3.2 q hq hc) hc) hc⟩, .inl ⟨rfl, rfl⟩, hR, M11⟩
              · refine exc_expr1_K F9 Xg N9 her hdE rfl (by simp only [depth_deeper]; omega) (by simp only [units_deeper]; omega) fun h10 tk10 F10 N10 => ?_
                clear F9 N9
                k_steps
                unfold Halt
                rename Fr _ _ _ _ => F11
                rename News _ _ _ _ => N11
                refine ga_name_K F11 Xg N11 (M4.expr j hj) rfl (by simp only [depth_deeper]; omega) (by simp only [units_deeper]; omega) fun x12 t12 h12 tk12 F12 N12 => ?_
                clear F11 N11
                k_steps
                all_goals (try dsimp only)
                rename Fr _ _ _ _ => F12
                rename News _ _ _ _ => N12
                exact back_of F12 N12 ⟨-1, mm3, cs3, by decide, hcs3, .inl ⟨rfl, rfl⟩, hR, M4⟩
          · all_goals (try dsimp only)
            rename Fr _ _ _ _ => F12
            rename News _ _ _ _ => N12
            exact back_of F12 N12 ⟨-1, mm3, cs3, by decide, hcs3, .inl ⟨rfl, rfl⟩, hR, M4⟩
        · obtain ⟨d5, c5', ex5, x5, t5, l15, l25, hnm5, oD5, hD5⟩ := id hnd
          k_steps
          unfold Halt
          rename Fr _ _ _ _ => F5
          rename News _ _ _ _ => N5
          refine kto_is (kto_N N5 hnm5) (kto_K (Xg.keeps F5.keep) (by k_is)) (kto_neNK N5 hnm5 Xg (by k_is)) (fun z => by cases z) ?_
          k_steps
          all_goals (try dsimp only)
          rename Fr _ _ _ _ => F12
          rename News _ _ _ _ => N12
          exact back_of F12 N12 ⟨q, mm3, cs3, by omega, hcs3, .inr ⟨q, nd, rfl, rfl, hnd⟩, hR, M4⟩
end
end VJ
end

section
open PySem PySem.W PyProof.Rows PySem.Calls PySem.W.X
namespace VJ
set_option maxRecDepth 100000
theorem fillQn : K9 = K9 ∧ PySem.Challenge.rw_vj0024_01 = PySem.Challenge.rw_vj0024_01 := by
  k_fill
  exact ⟨rfl, rfl⟩
def at2 (new : List (Addr × Obj)) (i j : Nat) : Option ((Addr × Obj) × (Addr × Obj)) := match new[i]?, new[j]? with
  | some p, some q => some (p, q)
  | _, _ => none
def refOf : Option Value → Addr
  | some (Value.ref c) => c
  | _ => 0
def childOf (o : Obj) : Addr := refOf (o.slots[0]?).join
/-- a node among what was made, its own dict beside it -/
def MadeN (new : List (Addr × Obj)) (i j : Nat) (a : Addr) (F : Addr → Obj → Obj) : Prop := at2 new i j = (at2 new i j).map fun z => ((a, F z.2.1 z.1.2), z.2)
theorem madeN_of {h₀ h : Heap} {new : List (Addr × Obj)} {i j : Nat} {a : Addr} {F : Addr → Obj → Obj} (D : Mem h₀ h [] new) (m : MadeN new i j a F) (hs : (at2 new i j).isSome = true) : ∃ d o o', Grew h₀ h [(a, F d o), (d, o')] := by
  unfold MadeN at m
  obtain ⟨⟨p, q⟩, e⟩ := Option.isSome_iff_exists.mp hs
  rw [e, Option.map_some] at m
  simp only [Option.some.injEq, Prod.mk.injEq] at m
  unfold at2 at e
  split at e
  · rename_i p' q' e1 e2
    cases e
    refine ⟨q.1, p.2, q.2, grew_cons D ?_ (grew1 D ?_)⟩
    · rw [← m.1]; exact List.mem_of_getElem? e1
    · exact List.mem_of_getElem? e2
  · cases e
/-- what a making of a node tells -/
def NodeMade (s : Shared) (v1 : Addr) (x : Str) (t : Tok) (i1 : Int) (l1 : Tok) (i2 : Int) (l2 : Tok) (v : Value) (s' : Shared) : Prop :=
  ∃ a h tk new, v = .ref a ∧ s' = ⟨h, s.gens, s.drawn, tk, s.os⟩ ∧ Mem s.heap h [] new ∧ ∃ i j, (new[i]?).map (·.2.cls) = some (.ref 243) ∧ MadeN new i j a (fun d o => nodeObj d (childOf o) v1 x t i1 l1 i2 l2) ∧ (at2 new i j).isSome = true
section
local macro_rules | `(tactic| x_close) => `(tactic| first
  | (refine' ⟨_, _, _, _, rfl, rfl, ?D, 2, 3, ?c, ?m, ?s⟩; (case D => assumption); (case c => rfl); (case m => (unfold MadeN; kernel_rfl)); (case s => kernel_rfl))
  | (refine' ⟨_, _, _, _, rfl, rfl, ?D, 1, 2, ?c, ?m, ?s⟩; (case D => assumption); (case c => rfl); (case m => (unfold MadeN; kernel_rfl)); (case s => kernel_rfl))
  | (exfalso; omega))
variable {prog : Program} {w : World} {s : Shared} {x : Str} {t l1 l2 : Tok} {v1 c : Addr} {i1 i2 : Int}
set_option maxHeartbeats 400000 in
theorem xn1 (X : (K9 w.params).In s.heap) :
    wpAny (model prog w) A9 (call (.ref 243) [.ref v1, .str x t, .int i1 l1, .int i2 l2] []) (NodeMade s v1 x t i1 l1 i2 l2) (fun _ _ => False) s := by
  x_run
set_option maxHeartbeats 400000 in
theorem xn2 {vs : Array Value} {n : Nat} (X : (K9 w.params).In s.heap) (h1 : s.heap.get? c = some { cls := .type "list", data := .seq vs n }) (hv : vs.size ≤ 100) :
    wpAny (model prog w) A9 (call (.ref 243) [.ref v1, .str x t, .int i1 l1, .int i2 l2, .ref c] []) (NodeMade s v1 x t i1 l1 i2 l2) (fun _ _ => False) s := by
  x_run
set_option maxHeartbeats 400000 in
theorem xn3 {y : Value} {n : Nat} (X : (K9 w.params).In s.heap) (h1 : s.heap.get? c = some { cls := .type "list", data := .seq #[y] n }) :
    wpAny (model prog w) A9 (call (.ref 243) [.ref v1, .str x t, .int i1 l1, .int i2 l2] [(Str.ofString "children", .ref c)]) (NodeMade s v1 x t i1 l1 i2 l2) (fun _ _ => False) s := by
  x_run
end
section
variable {prog : Program} {w : World} {A : Around} {E : Value → Shared → Prop} {Q : Value → Shared → Prop} {s : Shared} {h₀ : Heap} {L : Addr} {m : Str → Option Value} {news : List (Addr × Obj)} {x : Str} {t l1 l2 : Tok} {v1 : Addr} {i1 i2 : Int} {tr : Sem Value}
theorem node_K (z : wpAny (model prog w) A9 tr (NodeMade s v1 x t i1 l1 i2 l2) (fun _ _ => False) s) (F : Fr h₀ L s.heap m) (N : News h₀ L s.heap news) (hh : A.handled = none) (hdp : A.depth ≤ 900) (hu : A.units ≤ 9000)
    (h : ∀ a h' tk news', Fr h₀ L h' m → News h₀ L h' news' → (∀ q ∈ news, q ∈ news') → NodeAt news' a i1 i2 → Q (.ref a) { s with heap := h', toks := tk }) : wpAny (model prog w) A tr Q E s := by
  refine wpAny_mono (wide_around z hh hdp hu) (fun r s' q => ?_) fun _ _ e => e.elim
  obtain ⟨a, h', tk, new, rfl, rfl, D, i, j, _, m', hs⟩ := q
  obtain ⟨d, o, o', G⟩ := madeN_of D m' hs
  exact h a h' tk _ (grew_fr F G) (grew_news F N G) (fun q hq => List.mem_append_right _ hq) ⟨d, _, _, _, _, _, _, List.mem_append_left _ (.head _), _, List.mem_append_left _ (.tail _ (.head _))⟩
end
end VJ
end

section
open PySem PySem.W PyProof.Rows PySem.Calls PySem.Spec PyProof.V
namespace VJ
set_option maxRecDepth 100000
theorem fillQ4 : K9 = K9 ∧ PySem.Challenge.rw_vj0024_01 = PySem.Challenge.rw_vj0024_01 := by
  k_fill
  exact ⟨rfl, rfl⟩
local macro_rules | `(tactic| k_mem) => `(tactic| (refine list_mem_of ?_; ktr_member))
local macro_rules | `(tactic| k_all) => `(tactic| assumption)
local macro_rules | `(tactic| k_room) => `(tactic| first | omega | (simp only [depth_under_make, depth_under_kw, depth_in1, depth_deeper]; omega))
local macro_rules | `(tactic| walk_at "call ref") => `(tactic| ((with_reducible show wpAny _ _ (call (Value.ref 243) _ _) _ _ _); k_dflt ((try dsimp only); refine halt_of ?_)))
local macro_rules | `(tactic| walk_at "call ref") => `(tactic| ((with_reducible show wpAny _ _ (call (Value.ref 297) _ _) _ _ _); k_dflt ((try dsimp only); refine halt_of ?_)))
local macro_rules | `(tactic| walk_at "getMethod ref") => `(tactic| ((with_reducible show wpAny _ _ (getMethod (Value.ref _) (Str.ofString "match_core") _) _ _ _); k_dflt ((try dsimp only); refine halt_of ?_)))
theorem mc_key {w : World} (ak : Ask) : plainGet (K9 w.params) ak.cls (Str.ofString "match_core") = true ∧ findIn (K9 w.params) (.ref ak.cls) (Str.ofString "match_core") = some (some (.ref 297)) := by
  have key : ∀ C : Addr, Kls C → plainGet (K9 w.params) C (Str.ofString "match_core") = true ∧ findIn (K9 w.params) (.ref C) (Str.ofString "match_core") = some (some (.ref 297)) := by
    rintro C (rfl | rfl | rfl | rfl | rfl) <;> exact ⟨by k_is, by k_is⟩
  exact key _ (kls_cls ak)
section
variable {prog : Program} {w : World} {A : Around} {E : Value → Shared → Prop} {s : Shared} {h₀ : Heap} {L : Addr} {m : Str → Option Value} {news news₂ : List (Addr × Obj)} {X D : Nat → Addr} {P : Nat → Ask} {ks : List Nat} {len B o : Nat} {cd er dE : Addr} {mm : Memo} {cs : List (Nat × Addr)}
/-- m.match_core -/
theorem mc_M {pl : Sem Bool} {Q : Value × List Value → Shared → Prop} (M : MInv prog w news X D P ks len B cd er dE mm cs) (ho : o ∈ ks) (F : Fr h₀ L s.heap m) (Xg : (K9 w.params).In h₀) (N : News h₀ L s.heap news₂) (sub : ∀ q ∈ news, q ∈ news₂)
    (h : Q (.ref 297, [.ref (X o)]) s) : wpAny (model prog w) A (getMethod (.ref (X o)) (Str.ofString "match_core") pl) Q E s := by
  obtain ⟨sl, nm, _, hX, _⟩ := M.expr o ho
  obtain ⟨ps, hO, _⟩ := M.oid o ho
  obtain ⟨es, n, hd6, hes⟩ := hO.form
  have I : InstAt s.heap (X o) _ (P o).cls _ := InstAt.of_news N (sub _ hX) (sub _ hd6)
  have hl : getL (Str.ofString "match_core") es = some none := by
    rcases hes with rfl | ⟨hsh, tk, u, rfl⟩
    · rfl
    · rfl
  exact method_inst F Xg I (mc_key _).1 (mc_key _).2 (by k_is) hl h
end
section
variable {prog : Program} {w : World} {X D : Nat → Addr} {P : Nat → Ask} {ks : List Nat} {n len B : Nat} {cd er dE : Addr} {at_ : Str → Nat → Bool} {text : Str}
set_option maxHeartbeats 4000000 in
theorem um_word {N k : Nat} {x : Str} (hP : P k = .word x) (hat : ∀ (x : Str) (p : Nat), p ≤ len → Txt.startswith3 text x (p : Int) = at_ x p) (hlen : text.length = len) (hl5 : len ≤ 5) {mm : Memo} {cs : List (Nat × Addr)} {p : Nat} {t2 t3 : Tok} {news : Led1} (hk : k ∈ ks) (hp : p ≤ len) (M : MInv prog w news X D P ks len B cd er dE mm cs) :
    Told prog w 356 [.ref (X k), .str text t2, .int p t3, .ref cd, .ref er] (2 * N + 111) (32 * N + 1016) news
      (fun r news' => ∃ v mm' cs', v ≠ -2 ∧ ((∀ a ∈ cs, a ∈ cs') ∧ Stay news news') ∧ ResIs news' r v p ∧ R P at_ len mm (.as k p) v mm' ∧ MInv prog w news' X D P ks len B cd er dE mm' cs')
      (fun news' => (∃ mm', R P at_ len mm (.as k p) (-2) mm') ∧ ∃ mm' cs', MInv prog w news' X D P ks len B cd er dE mm' cs') := by
  refine told_def (by k_is) (by k_is) (by omega) (fun _ _ => BindsTo.of_eq rfl) (locs rfl) ?_
  intro dp un gd env outer base G pp loose mean mg mb s L h₁ tk hd hu F N' hlt Bl Xg TT
  (try dsimp only)
  k_fold
  have hrl : recursionLimit = 1000 := rfl
  have hcl : cLine = 9900 := rfl
  obtain ⟨sl, nm, hnm, hX, hSl⟩ := M.expr k hk
  obtain ⟨ps, hO, _⟩ := M.oid k hk
  obtain ⟨oD, hD⟩ := hO.mem
  rw [hP] at hX hSl
  obtain ⟨hx2, tx, idt, tn, rfl⟩ := hSl
  simp only [Ask.cls] at hX
  k_steps
  · unfold Halt
    rename News _ _ _ _ => N1
    rename Fr _ _ _ _ => F1
    rename Txt.startswith3 text x _ = true => hs
    refine node_K (xn1 (Xg.keeps F1.keep)) F1 N1 rfl (by simp only [depth_deeper]; omega) (by simp only [units_deeper]; omega) fun a h2 tk2 news2 F2 N2 s2 hnd => ?_
    clear F1 N1
    k_steps
    all_goals (try dsimp only)
    exact back_of F2 N2 ⟨((p + x.length : Nat) : Int), mm, cs, by omega, ⟨fun _ h => h, fun q hq _ => s2 q hq⟩, .inr ⟨_, a, rfl, rfl, by push_cast; exact hnd⟩, .wordY hP (by rw [← hat x p hp]; exact hs), M.sup s2⟩
  · rename News _ _ _ _ => N1
    rename Fr _ _ _ _ => F1
    rename Txt.startswith3 text x _ = false => hs
    all_goals (try dsimp only)
    exact back_of F1 N1 ⟨-1, mm, cs, by decide, ⟨fun _ h => h, fun _ h _ => h⟩, .inl ⟨rfl, rfl⟩, .wordN hP (by rw [← hat x p hp]; exact hs), M⟩
theorem R.lookY {k p one : Nat} {neg : Bool} {e : Int} {mm mm' : Memo} (hP : P k = .look one neg) (hR : R P at_ len mm (.rd one p) e mm') (h : e ≠ -2) (hc : decide (e = -1) = neg) : R P at_ len mm (.as k p) (p : Int) mm' := by
  have := R.look hP hR h
  rwa [if_pos hc] at this
theorem R.lookN {k p one : Nat} {neg : Bool} {e : Int} {mm mm' : Memo} (hP : P k = .look one neg) (hR : R P at_ len mm (.rd one p) e mm') (h : e ≠ -2) (hc : ¬ decide (e = -1) = neg) : R P at_ len mm (.as k p) (-1) mm' := by
  have := R.look hP hR h
  rwa [if_neg hc] at this
set_option maxHeartbeats 4000000 in
theorem um_look {N k o : Nat} {g : Bool} (hP : P k = .look o g) (C : CoreC prog w X D P ks n len B cd er dE at_ text N) (ho : o ∈ ks) (hlen : text.length = len) (hl5 : len ≤ 5) {mm : Memo} {cs : List (Nat × Addr)} {p : Nat} {t2 t3 : Tok} {news : Led1} (hk : k ∈ ks) (hp : p ≤ len) (hg : Good len mm) (hl : left n len mm ≤ N) (M : MInv prog w news X D P ks len B cd er dE mm cs) :
    Told prog w 478 [.ref (X k), .str text t2, .int p t3, .ref cd, .ref er] (2 * N + 111) (32 * N + 1016) news
      (fun r news' => ∃ v mm' cs', v ≠ -2 ∧ ((∀ a ∈ cs, a ∈ cs') ∧ Stay news news') ∧ ResIs news' r v p ∧ R P at_ len mm (.as k p) v mm' ∧ MInv prog w news' X D P ks len B cd er dE mm' cs')
      (fun news' => (∃ mm', R P at_ len mm (.as k p) (-2) mm') ∧ ∃ mm' cs', MInv prog w news' X D P ks len B cd er dE mm' cs') := by
  refine told_def (by k_is) (by k_is) (by omega) (fun _ _ => BindsTo.of_eq rfl) (locs rfl) ?_
  intro dp un gd env outer base G pp loose mean mg mb s L h₁ tk hd hu F N' hlt Bl Xg TT
  (try dsimp only)
  k_fold
  have hrl : recursionLimit = 1000 := rfl
  have hcl : cLine = 9900 := rfl
  obtain ⟨sl, nm, hnm, hX, hSl⟩ := M.expr k hk
  obtain ⟨ps, hO, _⟩ := M.oid k hk
  obtain ⟨oD, hD⟩ := hO.mem
  rw [hP] at hX hSl
  obtain ⟨T, nT, idt, tn, rfl, hT⟩ := hSl
  simp only [Ask.cls] at hX
  k_steps
  unfold Halt
  rename News _ _ _ _ => N1
  rename Fr _ _ _ _ => F1
  refine mc_M M ho F1 Xg N1 (fun _ h => h) ?_
  dsimp only
  k_steps
  unfold Halt
  rename News _ _ _ _ => N2
  rename Fr _ _ _ _ => F2
  refine told_use (xs := []) (C mm cs o p _ _ news ho hp hg hl M) Bl F2 Xg N2 TT rfl rfl rfl rfl (by simp only [depth_deeper]; omega) (by simp only [units_deeper]; omega) (fun _ h => nomatch h) ?_ ?_
  · rintro r news4 h4 tk4 F4 N4 - ⟨v, mm', cs', hv2, hcs, hres, hR, M4⟩
    simp only [List.nil_append] at N4
    try clear N1
    try clear F1
    try clear N2
    try clear F2
    clear hX hD hT
    obtain ⟨sl, nm, hnm, hX, hSl⟩ := M4.expr k hk
    obtain ⟨ps, hO, _⟩ := M4.oid k hk
    obtain ⟨oD, hD⟩ := hO.mem
    rw [hP] at hX hSl
    obtain ⟨T, nT, idt, tn, rfl, hT⟩ := hSl
    simp only [Ask.cls] at hX
    rcases hres with ⟨rfl, rfl⟩ | ⟨q, nd, rfl, rfl, hnd⟩
    · k_steps
      all_goals (try dsimp only)
      · unfold Halt
        rename News _ _ _ _ => N5
        rename Fr _ _ _ _ => F5
        rename (_ == g) = true => hgt
        refine node_K (xn1 (Xg.keeps F5.keep)) F5 N5 rfl (by simp only [depth_deeper]; omega) (by simp only [units_deeper]; omega) fun a6 h6 tk6 news6 F6 N6 s6 hnd6 => ?_
        clear F5 N5
        k_steps
        all_goals (try dsimp only)
        exact back_of F6 N6 ⟨p, mm', cs', by omega, ⟨hcs.1, fun q hq hc => s6 _ (hcs.2 q hq hc)⟩, .inr ⟨p, a6, rfl, rfl, hnd6⟩, R.lookY hP hR (by decide) (by cases g <;> simp_all), M4.sup s6⟩
      · rename News _ _ _ _ => N5
        rename Fr _ _ _ _ => F5
        rename (_ == g) = false => hgt
        exact back_of F5 N5 ⟨-1, mm', cs', by decide, hcs, .inl ⟨rfl, rfl⟩, R.lookN hP hR (by decide) (by cases g <;> simp_all), M4⟩
    · k_steps
      all_goals (try dsimp only)
      · unfold Halt
        rename News _ _ _ _ => N5
        rename Fr _ _ _ _ => F5
        rename (_ == g) = true => hgt
        refine node_K (xn1 (Xg.keeps F5.keep)) F5 N5 rfl (by simp only [depth_deeper]; omega) (by simp only [units_deeper]; omega) fun a6 h6 tk6 news6 F6 N6 s6 hnd6 => ?_
        clear F5 N5
        k_steps
        all_goals (try dsimp only)
        exact back_of F6 N6 ⟨p, mm', cs', by omega, ⟨hcs.1, fun q hq hc => s6 _ (hcs.2 q hq hc)⟩, .inr ⟨p, a6, rfl, rfl, hnd6⟩, R.lookY hP hR (by omega) (by cases g <;> simp_all <;> omega), M4.sup s6⟩
      · rename News _ _ _ _ => N5
        rename Fr _ _ _ _ => F5
        rename (_ == g) = false => hgt
        exact back_of F5 N5 ⟨-1, mm', cs', by decide, hcs, .inl ⟨rfl, rfl⟩, R.lookN hP hR (by omega) (by cases g <;> simp_all <;> omega), M4⟩
  · rintro er1 t1 us1 news10 g10 h10 tk10 F10 R10 U10 ⟨⟨mm', hR⟩, hM⟩
    exact leave_onS Bl F10 R10 U10 fun h11 R11 _ U11 => oops_of R11 U11 ⟨⟨_, .lookX hP hR⟩, hM⟩
end
end VJ
end

section
open PySem PySem.W PyProof.Rows PySem.Calls
namespace VJ
set_option maxRecDepth 100000
/-- the ground behind a caught error: the frames that stand below may have other slots -/
def KeptF (fs : List Addr) (G h : Heap) : Prop := (∀ b o, G.get? b = some o → b ∉ fs → h.get? b = some o) ∧ ∀ b o, G.get? b = some o → b ∈ fs → ∃ sl, h.get? b = some { o with slots := sl }
theorem KeptF.up {fs : List Addr} {G h : Heap} (k : KeptF fs G h) : G.UpToSlots h := fun b o e _ => by
  by_cases m : b ∈ fs
  · exact k.2 b o e m
  · exact ⟨o.slots, k.1 b o e m⟩
/-- the contract of a def that catches, called from the bottom frame -/
def ToldT (prog : Program) (w : World) (f : Addr) (vs : List Value) (dn un : Nat) (news : List (Addr × Obj)) (Ret : Value → List (Addr × Obj) → Prop) : Prop :=
  ∀ (A : Around) (env : Env) (base G : Heap) (p : Program) (loose : List Str) (mean : ExcName → Option Value) (mg mb : Str → Option Value) (s : Shared) (Q E : Value → Shared → Prop),
    Below A base [env] G → (K9 w.params).In base → Top p loose mean mg mb base → (K9 w.params).In G → Top p loose mean mg mb G → KtsDicts ([env].filterMap (·.frame)) G → A.handled = none → A.depth + dn < recursionLimit → A.units + un < cLine →
    (∀ b o, G.get? b = some o → s.heap.get? b = some o) → G.objs.size ≤ s.heap.objs.size → Led G s.heap news →
    (∀ r news' h' tk', KeptF ([env].filterMap (·.frame)) G h' → Led G h' news' → Ret r news' → Q r { s with heap := h', toks := tk' }) →
    wpAny (model prog w) A (call (.ref f) vs) Q E s
section
variable {prog : Program} {w : World} {A A₀ : Around} {env : Env} {outer : List Env} {base h₀ G h : Heap} {p : Program} {loose : List Str} {mean : ExcName → Option Value} {mg mb : Str → Option Value} {s : Shared} {Q E : Value → Shared → Prop}
  {L f : Addr} {m : Str → Option Value} {vs : List Value} {dn un : Nat} {news xs : List (Addr × Obj)} {Ret : Value → List (Addr × Obj) → Prop}
theorem told_useT (C : ToldT prog w f vs dn un news Ret) (B : Below A₀ h₀ [] h₀) (F : Fr h₀ L s.heap m) (X : (K9 w.params).In h₀) (N : News h₀ L s.heap (xs ++ news)) (T : Top p loose mean mg mb h₀)
    (hA : A.frames = some [env]) (hf : env.frame = some L) (hke : env.scope.kind = .function) (hh : A.handled = none) (hd : A.depth + dn < recursionLimit) (hu : A.units + un < cLine)
    (ap : ∀ q ∈ xs, ∀ r ∈ news, q.1 ≠ r.1)
    (ret : ∀ r news' h' tk', Fr h₀ L h' m → News h₀ L h' (xs ++ news') → (∀ q ∈ xs, ∀ r ∈ news', q.1 ≠ r.1) → Ret r news' → Q r { s with heap := h', toks := tk' }) :
    wpAny (model prog w) A (call (.ref f) vs) Q E s := by
  have Nn : News h₀ L s.heap news := fun p hp => N p (List.mem_append.mpr (.inr hp))
  have Nx : News h₀ L s.heap xs := fun p hp => N p (List.mem_append.mpr (.inl hp))
  have FG := ground_frame F Nn
  have st : h₀.StaysIn (groundOf s.heap news) := FG.keep
  obtain ⟨oL, es, ep, hLg, hLr⟩ := FG.ns
  have nb : h₀.get? L = none := kts_self F
  have fsL : [env].filterMap (·.frame) = [L] := by simp [hf]
  have B₂ : Below A h₀ [env] (groundOf s.heap news) := by
    refine ⟨hA, st, ?_⟩
    exact .cons (by rw [hke]; decide) hf FG.ns nb (B.frames.of_keeps fun b o e _ => ⟨o, st b o e, rfl⟩)
  refine C A env h₀ (groundOf s.heap news) p loose mean mg mb s Q E B₂ X T (Frag.In.keeps X st) (T.keeps st) (by
      rw [fsL]; intro b hb; rw [List.mem_singleton.mp hb]; exact ⟨oL, es, ep, hLg, hLr.1⟩) hh hd hu (fun b o e => of_hideAll _ e) (Nat.le_of_eq (hideAll_size _ _))
    (fun q hq => ⟨(Nn q hq).1, hideAll_none _ (List.mem_map_of_mem hq)⟩) (fun r news' h' tk' hk hl hr => ?_)
  have up := hk.up
  rw [fsL] at hk
  have F' : Fr h₀ L h' m := ⟨up.ns FG.ns, fun b o e => hk.1 _ _ (st b o e) (fun z => by rw [List.mem_singleton.mp z, nb] at e; cases e), F.above⟩
  have apx : ∀ q ∈ xs, (groundOf s.heap news).get? q.1 = some q.2 := fun q hq => hideAll_get _ (Nx q hq).1 fun z => by
    obtain ⟨r, hr, e⟩ := List.mem_map.mp z
    exact ap q hq r hr e.symm
  refine ret r news' h' tk' F' (fun q hq => ?_) (fun q hq r hr e => ?_) hr
  · rcases List.mem_append.mp hq with hq | hq
    · exact ⟨hk.1 _ _ (apx q hq) (fun z => (Nx q hq).2.1 (List.mem_singleton.mp z)), (Nx q hq).2⟩
    · refine ⟨(hl q hq).1, fun e => ?_, ?_⟩
      · have := (hl q hq).2; rw [e, hLg] at this; cases this
      · cases z : h₀.get? q.1 with
        | none => rfl
        | some o => have := (hl q hq).2; rw [st _ _ z] at this; cases this
  · have := (hl r hr).2; rw [← e, apx q hq] at this; cases this
def BackT (fs : List Addr) (G : Heap) (s : Shared) (Ret : Value → List (Addr × Obj) → Prop) (v : Value) (s' : Shared) : Prop :=
  ∃ news' h' tk', s' = { s with heap := h', toks := tk' } ∧ KeptF fs G h' ∧ Led G h' news' ∧ Ret v news'
theorem back_ofT {fs : List Addr} {g' h' : Heap} {tk' : Nat} {v : Value} {news' : List (Addr × Obj)} {L' : Addr} {m' : Str → Option Value} (T : KtsTurn fs G g') (F : Fr g' L' h' m') (N : News g' L' h' news') (hr : Ret v news') : BackT fs G s Ret v { s with heap := h', toks := tk' } :=
  ⟨news', h', tk', rfl, ⟨fun b o e m => F.keep _ _ (T.other b o e m), fun b o e m => let ⟨sl, h⟩ := T.frame b o e m; ⟨sl, F.keep _ _ h⟩⟩, fun q hq => ⟨(N q hq).1, by
    cases z : G.get? q.1 with
    | none => rfl
    | some o => obtain ⟨sl, h⟩ := T.up z; rw [(N q hq).2.2] at h; cases h⟩, hr⟩
/-- a def that catches holds its contract when its body does -/
theorem told_defT {name qual : Str} {params : Arguments} {body : List Stmt} {scope : Scope} {dV kV doc pm cdv ct oc : Value} {an od : Option Addr} {osl : Array (Option Value)} {binds : List (Str × Value)}
    (ho : (K9 w.params).lookup f = some ⟨oc, od, .func (fnOf name qual params body scope dV kV doc pm an cdv ct), osl⟩) (hcd : codeIn (K9 w.params) cdv qual = true)
    (hbind : ∀ {G : Heap} {s : Shared}, (K9 w.params).In G → (∀ b o, G.get? b = some o → s.heap.get? b = some o) → BindsTo s (fnOf name qual params body scope dV kV doc pm an cdv ct) ⟨vs, []⟩ binds) (hloc : ∀ y ∈ binds, scope.names.lookup y.1 = some .local)
    (hb : ∀ (dp un' : Nat) (gd : Option (List Code)) (env : Env) (base G : Heap) (p : Program) (loose : List Str) (mean : ExcName → Option Value) (mg mb : Str → Option Value) (s : Shared) (L : Addr) (h₁ : Heap) (tk : Nat),
      dp + dn < recursionLimit → un' + un < cLine → Fr G L h₁ (fun y => binds.reverse.lookup y) → News G L h₁ news → (∀ q ∈ news, q.1 < L) → Below { handled := none, depth := dp, frames := some [env], guards := gd, units := un' } base [env] G → (K9 w.params).In base → Top p loose mean mg mb base → (K9 w.params).In G → Top p loose mean mg mb G → KtsDicts ([env].filterMap (·.frame)) G →
      wpAny (model prog w) (Around.deeper { handled := none, depth := dp, frames := some [env], guards := gd, units := un' } (envOf qual scope L f cdv)) (execs body (envOf qual scope L f cdv))
        (fun fl s' => BackT ([env].filterMap (·.frame)) G s Ret (match fl with | .ret v => v | _ => .none) s')
        (fun e s' => wpAny (model prog w) (Around.deeper { handled := none, depth := dp, frames := some [env], guards := gd, units := un' } (envOf qual scope L f cdv)) (leaving (envOf qual scope L f cdv) e) (fun _ _ => False) (fun _ _ => False) s')
        { s with heap := h₁, toks := tk })
    (hco : scope.isCoroutine = false := by rfl) (hgen : scope.isGenerator = false := by rfl) (hk : scope.kind = .function := by rfl)
    (hcell : ∀ x ∈ scope.names, x.2 ≠ .cell := by decide) : ToldT prog w f vs dn un news Ret := by
  intro A env base G p loose mean mg mb s Q E B XB TB X T D hh hd hu hk₀ hsz N ret
  obtain ⟨hnd, dp, fr, gd, un'⟩ := A
  obtain rfl : hnd = none := hh
  obtain rfl : fr = some [env] := B.stack
  refine wpAny_call (codeAny_call_def (fd := fnOf name qual params body scope dV kV doc pm an cdv ct) (body := body) (binds := binds) (Nat.lt_of_le_of_lt (Nat.le_add_right _ _) hd) (hk₀ _ _ (X _ _ ho)) rfl (T.nolimit.keeps hk₀) (codeRec_of (Frag.In.keeps X hk₀) hcd) rfl (hbind X hk₀) hcell hloc (fun h₁ hns hk₁ => ?_) hco hgen hk)
  refine wpAny_mono (hb dp un' gd env base G p loose mean mg mb s s.heap.objs.size h₁ (s.toks + binds.length) hd hu ⟨hns, fun b o e => hk₁ b o (hk₀ b o e), hsz⟩ (fun q hq => ⟨hk₁ _ _ (N q hq).1, Nat.ne_of_lt (Heap.lt_size (N q hq).1), (N q hq).2⟩) (fun q hq => Heap.lt_size (N q hq).1) B XB TB X T D) (fun fl s' z => ?_) fun e s' z => ?_
  · obtain ⟨news', h', tk', rfl, hk', N', hr⟩ := z
    exact ret _ _ _ _ hk' N' hr
  · exact wpAny_mono z (fun _ _ z => z.elim) fun _ _ z => z.elim
end
end VJ
end

section
open PySem PySem.W PyProof.Rows PySem.Calls PySem.Spec PyProof.V
namespace VJ
set_option maxRecDepth 100000
theorem fillQ10 : K9 = K9 ∧ PySem.Challenge.rw_vj0024_01 = PySem.Challenge.rw_vj0024_01 := by
  k_fill
  exact ⟨rfl, rfl⟩
local macro_rules | `(tactic| k_mem) => `(tactic| (refine list_mem_of ?_; ktr_member))
local macro_rules | `(tactic| k_all) => `(tactic| assumption)
local macro_rules | `(tactic| k_room) => `(tactic| first | omega | (simp only [depth_under_make, depth_under_kw, depth_in1, depth_deeper]; omega))
local macro_rules | `(tactic| walk_at "call ref") => `(tactic| ((with_reducible show wpAny _ _ (call (Value.ref 87) _ _) _ _ _); k_dflt ((try dsimp only); refine halt_of ?_)))
local macro_rules | `(tactic| walk_at "call ref") => `(tactic| ((with_reducible show wpAny _ _ (call (Value.ref 297) _ _) _ _ _); k_dflt ((try dsimp only); refine halt_of ?_)))
local macro_rules | `(tactic| walk_at "getMethod ref") => `(tactic| ((with_reducible show wpAny _ _ (getMethod (Value.ref _) (Str.ofString "match_core") _) _ _ _); k_dflt ((try dsimp only); refine halt_of ?_)))
local macro_rules | `(tactic| walk_at "getMethod ref") => `(tactic| ((with_reducible show wpAny _ _ (getMethod (Value.ref _) (Str.ofString "match") _) _ _ _); k_dflt ((try dsimp only); refine halt_of ?_)))
local macro_rules | `(tactic| walk_at "exec Raise some none") => `(tactic| (k_dflt (refine Raise_c rfl ?_)))
theorem match_key {w : World} (ak : Ask) : plainGet (K9 w.params) ak.cls (Str.ofString "match") = true ∧ findIn (K9 w.params) (.ref ak.cls) (Str.ofString "match") = some (some (.ref 290)) := by
  have key : ∀ C : Addr, Kls C → plainGet (K9 w.params) C (Str.ofString "match") = true ∧ findIn (K9 w.params) (.ref C) (Str.ofString "match") = some (some (.ref 290)) := by
    rintro C (rfl | rfl | rfl | rfl | rfl) <;> exact ⟨by k_is, by k_is⟩
  exact key _ (kls_cls ak)
section
variable {prog : Program} {w : World} {A : Around} {E : Value → Shared → Prop} {s : Shared} {h₀ : Heap} {L : Addr} {m : Str → Option Value} {news news₂ : List (Addr × Obj)} {X D : Nat → Addr} {P : Nat → Ask} {ks : List Nat} {B k : Nat}
/-- rule.match -/
theorem match_M {pl : Sem Bool} {Q : Value × List Value → Shared → Prop} (M : MStat news X D P ks B) (ho : k ∈ ks) (F : Fr h₀ L s.heap m) (Xg : (K9 w.params).In h₀) (N : News h₀ L s.heap news₂) (sub : ∀ q ∈ news, q ∈ news₂)
    (h : Q (.ref 290, [.ref (X k)]) s) : wpAny (model prog w) A (getMethod (.ref (X k)) (Str.ofString "match") pl) Q E s := by
  obtain ⟨sl, nm, _, hX, _⟩ := M.expr k ho
  obtain ⟨ps, hO, _⟩ := M.oid k ho
  obtain ⟨es, n, hd6, hes⟩ := hO.form
  have I : InstAt s.heap (X k) _ (P k).cls _ := InstAt.of_news N (sub _ hX) (sub _ hd6)
  have hl : getL (Str.ofString "match") es = some none := by
    rcases hes with rfl | ⟨hsh, tk, u, rfl⟩
    · rfl
    · rfl
  exact method_inst F Xg I (match_key _).1 (match_key _).2 (by k_is) hl h
end
/-- the names of `match` -/
abbrev mM (a : Addr) (text : Str) (t2 : Tok) (p : Int) (t3 : Tok) : Str → Option Value := fun y => List.lookup y [(Str.ofString "pos", .int p t3), (Str.ofString "text", .str text t2), (Str.ofString "self", .ref a)]
section
variable {prog : Program} {w : World} {A : Around} {E : Value → Shared → Prop} {s : Shared} {h₀ : Heap} {L : Addr} {m : Str → Option Value} {news news₂ : List (Addr × Obj)} {X D : Nat → Addr} {P : Nat → Ask} {ks : List Nat} {B k : Nat}
theorem mcS_M {pl : Sem Bool} {Q : Value × List Value → Shared → Prop} (M : MStat news X D P ks B) (ho : k ∈ ks) (F : Fr h₀ L s.heap m) (Xg : (K9 w.params).In h₀) (N : News h₀ L s.heap news₂) (sub : ∀ q ∈ news, q ∈ news₂)
    (h : Q (.ref 297, [.ref (X k)]) s) : wpAny (model prog w) A (getMethod (.ref (X k)) (Str.ofString "match_core") pl) Q E s := by
  obtain ⟨sl, nm, _, hX, _⟩ := M.expr k ho
  obtain ⟨ps, hO, _⟩ := M.oid k ho
  obtain ⟨es, n, hd6, hes⟩ := hO.form
  have I : InstAt s.heap (X k) _ (P k).cls _ := InstAt.of_news N (sub _ hX) (sub _ hd6)
  have hl : getL (Str.ofString "match_core") es = some none := by
    rcases hes with rfl | ⟨hsh, tk, u, rfl⟩
    · rfl
    · rfl
  exact method_inst F Xg I (mc_key _).1 (mc_key _).2 (by k_is) hl h
end
section
variable {prog : Program} {w : World} {X D : Nat → Addr} {P : Nat → Ask} {ks : List Nat} {n len B : Nat} {at_ : Str → Nat → Bool} {text : Str}
set_option maxHeartbeats 4000000 in
theorem told_told {N : Nat} (C : ∀ cd er dE, CoreC prog w X D P ks n len B cd er dE at_ text N) (hN : N ≤ 200) (hl : left n len (fun _ _ => none) ≤ N) (hat : ∀ x p, p ≤ len → at_ x p = true → p + x.length ≤ len) (hlen : text.length = len) (hl5 : len ≤ 5) {k p : Nat} {t2 t3 : Tok} {news : Led1} (hk : k ∈ ks) (hp : p ≤ len) (S : MStat news X D P ks B) :
    ToldT prog w 602 [.ref (X k), .str text t2, .int p t3] (2 * N + 115) (32 * N + 1064) news
      (fun r news' => ∃ v t mm', r = .int v t ∧ R P at_ len (fun _ _ => none) (.rd k p) v mm' ∧ MStat news' X D P ks (B + 1)) := by
  refine told_defT (by k_is) (by k_is) (fun _ _ => BindsTo.of_eq rfl) (locs rfl) ?_
  intro dp un gd env base G pp loose mean mg mb s L h₁ tk hdd hu F N' hlt Bl XB TB Xg TT DD
  (try dsimp only)
  k_fold
  have hrl : recursionLimit = 1000 := rfl
  have hcl : cLine = 9900 := rfl
  k_steps
  unfold Halt
  rename News _ _ _ _ => N1
  rename Fr _ _ _ _ => F1
  refine match_M S hk F1 Xg N1 (fun _ h => h) ?_
  dsimp only
  k_steps
  unfold Halt
  rename News _ _ _ _ => N2
  rename Fr _ _ _ _ => F2'
  have F2 : Fr _ _ _ (mM (X k) text t2 p t3) := F2'
  clear F2'

  rename (K9 w.params).In _ => Xg2
  rename Top pp loose mean mg mb _ => TT2
  rename Below _ _ _ _ => Bl2
  rename ∀ q ∈ news, q.1 < _ => hlt2
  refine pe_K F2 Xg2 N2 rfl (by simp only [depth_deeper]; omega) (by simp only [units_deeper]; omega) fun er tp dE oE h3 tk3 F3 N3 hne3 => ?_
  clear F2 N2
  simp only [List.cons_append, List.nil_append] at N3
  k_steps
  unfold Halt
  rename News _ _ _ _ => N4
  rename Fr _ _ _ _ => F4
  refine mcS_M S hk F4 Xg2 N4 (fun _ h => .tail _ (.tail _ (.tail _ h))) ?_
  dsimp only
  k_steps
  unfold Halt
  rename_i cd h5 oc F5 N5 hlo hs5 fs5 hi5 fi5 l5
  clear hs5 fs5 fi5
  obtain ⟨lt1, lt2, lt3, lt4⟩ := l5
  have M0 : MInv prog w ((cd, oc) :: (er, excObj 87 tp dE) :: (dE, errDict (.str text t2) (.int (-1) (tokI (entAt oE 1).val)) .none oE) :: news) X D P ks len B cd er dE (fun _ _ => none) [] :=
    S.start (fun q hq => .tail _ (.tail _ (.tail _ hq))) (.head _) hi5 ⟨_, _, _, _, _, _, _, _, _, _, _, _, _, _, _, _, _, .tail _ (.head _), .tail _ (.tail _ (.head _)), .inl rfl⟩ (fun q hq => Nat.ne_of_lt (tb_ltOf lt4 q hq)) (fun q hq => hne3 _ (.tail _ (.tail _ (.head _))) q hq) (Nat.ne_of_lt lt3).symm (beq_eq_false_iff_ne.mp hlo)
  have e1 := (N5 _ (.tail _ (.head _))).1
  have e2 := (N5 _ (.tail _ (.tail _ (.head _)))).1
  have e3 := (N5 _ (.tail _ (.tail _ (.tail _ (.head _))))).1
  have ap : ∀ q ∈ [((tp, { cls := .type "tuple", data := .seq #[.str text t2] 0 }) : Addr × Obj)], ∀ r ∈ ((cd, oc) :: (er, excObj 87 tp dE) :: (dE, errDict (.str text t2) (.int (-1) (tokI (entAt oE 1).val)) .none oE) :: news), q.1 ≠ r.1 := by
    intro q hq r hr z
    rw [List.mem_singleton.mp hq] at z
    dsimp only at z
    rcases List.mem_cons.mp hr with rfl | hr
    · exact Nat.ne_of_lt lt2 z
    rcases List.mem_cons.mp hr with rfl | hr
    · dsimp only at z e1 e2; rw [z, e1] at e2; cases e2
    rcases List.mem_cons.mp hr with rfl | hr
    · dsimp only at z e3 e2; rw [z, e3] at e2; have e4 := congrArg Obj.cls (Option.some.inj e2); exact absurd (Value.type.inj e4) (by decide)
    exact hne3 _ (.tail _ (.head _)) r hr z.symm
  have N6 : News _ _ h5 ([((tp, { cls := .type "tuple", data := .seq #[.str text t2] 0 }) : Addr × Obj)] ++ ((cd, oc) :: (er, excObj 87 tp dE) :: (dE, errDict (.str text t2) (.int (-1) (tokI (entAt oE 1).val)) .none oE) :: news)) := fun q hq => by
    refine N5 q ?_
    simp only [List.singleton_append, List.mem_cons] at hq ⊢
    rcases hq with h | h | h | h | h
    · exact .inr (.inr (.inl h))
    · exact .inl h
    · exact .inr (.inl h)
    · exact .inr (.inr (.inr (.inl h)))
    · exact .inr (.inr (.inr (.inr h)))
  refine told_use (C cd er dE (fun _ _ => none) [] k p _ _ _ hk hp (fun _ _ _ h => nomatch h) hl M0) Bl2 F5 Xg2 N6 TT2 rfl rfl rfl rfl (by simp only [depth_deeper]; omega) (by simp only [units_deeper]; omega) ap ?_ ?_
  · rintro r news7 h7 tk7 F7 N7 ap7 ⟨v, mm', cs', hv2, ⟨hcs, hst⟩, hres, hR, M7⟩
    clear F5 N5 N6
    have S7 := M7.stat
    simp only [List.cons_append, List.nil_append] at N7
    have her7 := hst _ (.tail _ (.head _)) ref_ne_dict
    have ne7 : ∀ r ∈ news7, tp ≠ r.1 := fun r hr => ap7 _ (.head _) r hr
    rcases hres with ⟨rfl, rfl⟩ | ⟨q, nd, rfl, rfl, hnd⟩
    · k_steps
      rename News _ _ _ _ => N8
      rename Fr _ _ _ _ => F8
      refine ⟨er, _, _, 87, rfl, Xg2.keeps F8.keep, (N8 _ (.tail _ her7)).1, rfl, by k_is, by k_is, rfl, rfl, ?_⟩
      have Ne : News _ _ _ [((er, excObj 87 tp dE) : Addr × Obj), (tp, { cls := .type "tuple", data := .seq #[.str text t2] 0 })] := fun q hq => N8 q (by
        rcases List.mem_cons.mp hq with rfl | hq
        · exact .tail _ her7
        · rw [List.mem_singleton.mp hq]; exact .head _)
      have FG := ground_frame F8 Ne
      have S9 : MStat (minus er tp news7) X D P ks (B + 1) := by
        have := MStat.drop N8 (S7.sup fun q hq => .tail _ hq) (.tail _ her7) rfl (.head _) rfl rfl
        have e : minus er tp ((tp, { cls := .type "tuple", data := .seq #[.str text t2] 0 }) :: news7) = minus er tp news7 := by
          show List.filter (fun q : Addr × Obj => decide (q.1 ≠ er ∧ q.1 ≠ tp)) _ = List.filter (fun q : Addr × Obj => decide (q.1 ≠ er ∧ q.1 ≠ tp)) _
          rw [List.filter_cons_of_neg (by simp)]
        rw [e] at this; exact this
      have N9 : News _ _ (groundOf _ [((er, excObj 87 tp dE) : Addr × Obj), (tp, { cls := .type "tuple", data := .seq #[.str text t2] 0 })]) (minus er tp news7) := fun q hq => by
        obtain ⟨h1, h2, h3⟩ := mem_minus.mp hq
        refine ⟨hideAll_get _ (N8 q (.tail _ h1)).1 fun z => ?_, (N8 q (.tail _ h1)).2⟩
        simp at z
        rcases z with z | z
        · exact h2 z
        · exact h3 z
      refine leave_raise_d (cls := .ref 87) (h := groundOf _ [((er, excObj 87 tp dE) : Addr × Obj), (tp, { cls := .type "tuple", data := .seq #[.str text t2] 0 })]) Bl2 (fun b o e => of_hideAll _ e) (hideAll_none _ (.head _)) (N8 _ (.tail _ her7)).1 rfl rfl rfl rfl (hideAll_none _ (.tail _ (.head _))) (N8 _ (.head _)).1 FG N9 fun h8 R8 U8 => ?_
      clear N8 F8 Ne FG N9
      k_steps
      (try dsimp only)
      rename KtsTurn _ _ _ => TU
      rename Fr _ _ _ _ => F8
      rename News _ _ _ (minus _ _ _) => N8
      exact back_ofT TU F8 N8 ⟨_, _, mm', rfl, hR, S9⟩
    · obtain ⟨d8, c8, ex8, x8, t8, l18, l28, hnm8, oD8, hD8⟩ := id hnd
      k_steps
      rename News _ _ _ _ => N8
      rename Fr _ _ _ _ => F8
      exact back_ofT KtsTurn.refl F8 N8 ⟨_, _, mm', rfl, hR, S7.sup fun q hq => .tail _ hq⟩
  · rintro er1 t1 us1 news10 g10 h10 tk10 F10 R10 U10 ⟨⟨mm', hR⟩, _, _, hM⟩
    refine leave_onS Bl2 F10 R10 U10 fun h11 R11 _ U11 => ?_
    clear F5 N5 N6
    have S9 := hM.stat
    k_steps
    (try dsimp only)
    rename KtsTurn _ _ _ => TU
    rename Fr _ _ _ _ => F8
    rename News _ _ _ news10 => N8
    exact back_ofT TU F8 N8 ⟨_, _, mm', rfl, hR, S9⟩
end
end VJ
end

section
open PySem PySem.W PyProof.Rows PySem.Calls
namespace VJ
set_option maxRecDepth 100000
theorem fillN1 : K9 = K9 ∧ PySem.Challenge.rw_vj0024_01 = PySem.Challenge.rw_vj0024_01 := by
  k_fill
  exact ⟨rfl, rfl⟩
local macro_rules | `(tactic| k_all) => `(tactic| assumption)
local macro_rules | `(tactic| walk_at "setItem ref int") => `(tactic| (k_here; k_dflt (refine' set_lst ?k1 ?k2 ?k3 ?k4 ?k5 ?k6 ?k7 ?_; (case k1 => k_asm); (case k2 => k_asm); (case k3 => k_upd); (case k4 => (simp only [List.setIfInBounds_toArray, Int.toNat_one, List.set_cons_succ, List.set_cons_zero]; rfl)); (case k5 => decide); (case k6 => decide); (case k7 => decide); k_whole); intro h' F' N'; (try k_sweep)))
set_option maxHeartbeats 4000000 in
theorem next_told {prog : Program} {w : World} {st sl : Addr} {lim i : Int} {tkl tki n n' : Nat} {vs : List Value} {ns : List Int} {rest : List (Addr × Obj)} (hI : IntsAre vs ns) (h1 : 0 < lim) (h2 : lim ≤ 8) (h3 : 0 ≤ i) (h4 : i ≤ 1000) (hlen : ns.length ≤ 60)
    (a1 : @Ne Nat st sl) (a2 : ∀ q ∈ rest, q.1 ≠ st) :
    Told prog w 567 [.ref st, .int lim tkl] 1 8 ((st, listOf #[.ref sl, .int i tki] n) :: (sl, listOf vs.toArray n') :: rest)
      (fun r news' => ∃ v tk tk', r = .int v tk ∧ 0 ≤ v ∧ v < lim ∧ news' = (st, listOf #[.ref sl, .int (i + 1) tk'] n) :: (sl, listOf vs.toArray n') :: rest) (fun _ => False) := by
  refine told_def (by k_is) (by k_is) (by decide) (fun _ _ => BindsTo.of_eq rfl) (locs rfl) ?_
  intro dp un gd env outer base G p loose mean mg mb s L h₁ tk hd hu F N hlt B X T
  (try dsimp only)
  k_fold
  k_steps
  · exact back_of (by assumption) (by assumption) ⟨_, _, _, rfl, by omega, by omega, rfl⟩
  · refine back_of (by assumption) (by assumption) ⟨_, _, _, rfl, ?_, ?_, rfl⟩
    · rw [Int.fmod_eq_emod_of_nonneg _ (by omega)]; exact Int.emod_nonneg _ (by omega)
    · rw [Int.fmod_eq_emod_of_nonneg _ (by omega)]; exact Int.emod_lt_of_pos _ h1

section
variable {prog : Program} {w : World} {A A₀ : Around} {env : Env} {outer : List Env} {base h₀ : Heap} {p : Program} {loose : List Str} {mean : ExcName → Option Value} {mg mb : Str → Option Value} {s : Shared} {Q E : Value → Shared → Prop}
  {L : Addr} {m : Str → Option Value} {cur : List (Addr × Obj)} {g : Obj → List (Addr × Obj)} {st sl : Addr} {lim i : Int} {tkl tki : Tok} {n n' : Nat} {vs : List Value} {ns : List Int}
/-- a draw, the state wherever it lies in the ledger -/
theorem next_use (B : Below A₀ base outer h₀) (F : Fr h₀ L s.heap m) (X : (K9 w.params).In h₀) (N : News h₀ L s.heap cur) (T : Top p loose mean mg mb h₀)
    (hA : A.frames = some (env :: outer)) (hf : env.frame = some L) (hke : env.scope.kind = .function) (hh : A.handled = none) (hd : A.depth + 1 < recursionLimit) (hu : A.units + 8 < cLine)
    (U : UpdF st (listOf #[.ref sl, .int i tki] n) cur g) (M : (sl, listOf vs.toArray n') ∈ cur) (hI : IntsAre vs ns) (h1 : 0 < lim) (h2 : lim ≤ 8) (h3 : 0 ≤ i) (h4 : i ≤ 1000) (hlen : ns.length ≤ 60) (a1 : @Ne Nat st sl)
    (ret : ∀ v tk tk' h' tk'', 0 ≤ v → v < lim → Fr h₀ L h' m → News h₀ L h' (g (listOf #[.ref sl, .int (i + 1) tk'] n)) → Q (.int v tk) { s with heap := h', toks := tk'' }) :
    wpAny (model prog w) A (call (.ref 567) [.ref st, .int lim tkl]) Q E s := by
  obtain ⟨pre, post, rfl, hg, a, b⟩ := U.split
  have C := next_told (prog := prog) (w := w) (st := st) (sl := sl) (lim := lim) (i := i) (tkl := tkl) (tki := tki) (n := n) (n' := n') (rest := []) hI h1 h2 h3 h4 hlen a1 (fun _ h => nomatch h)
  have one : ∀ q ∈ pre ++ (st, listOf #[.ref sl, .int i tki] n) :: post, q.1 = sl → q = (sl, listOf vs.toArray n') := fun q hq e => by
    have h7 := (N _ hq).1
    rw [e, (N _ M).1] at h7
    exact Prod.ext e (Option.some.inj h7).symm
  refine told_use (xs := (pre ++ post).filter fun q => decide (q.1 ≠ sl)) C B F X (fun q hq => N q ?_) T hA hf hke hh hd hu (fun q hq r hr => ?_) (fun r news' h' tk' F' N' _ hr => ?_) (fun _ _ _ _ _ _ _ _ _ _ h => h.elim)
  · rcases List.mem_append.mp hq with hq | hq
    · have := (List.mem_filter.mp hq).1
      rcases List.mem_append.mp this with h | h
      · exact List.mem_append_left _ h
      · exact List.mem_append_right _ (.tail _ h)
    · rcases List.mem_cons.mp hq with rfl | hq
      · exact List.mem_append_right _ (.head _)
      · rcases List.mem_cons.mp hq with rfl | hq
        · exact M
        · cases hq
  · obtain ⟨h5, h6⟩ := List.mem_filter.mp hq
    rcases List.mem_cons.mp hr with rfl | hr
    · rcases List.mem_append.mp h5 with h | h
      · exact a q h
      · exact b q h
    · rcases List.mem_cons.mp hr with rfl | hr
      · exact of_decide_eq_true h6
      · cases hr
  · obtain ⟨v, tk, tk2, rfl, b1, b2, rfl⟩ := hr
    refine ret v tk tk2 h' tk' b1 b2 F' fun q hq => N' q ?_
    rw [hg] at hq
    have mid : ∀ q ∈ pre ++ post, q ∈ ((pre ++ post).filter fun q => decide (q.1 ≠ sl)) ++ [(st, listOf #[.ref sl, .int (i + 1) tk2] n), (sl, listOf vs.toArray n')] := fun q hq => by
      by_cases e : q.1 = sl
      · have : q = (sl, listOf vs.toArray n') := one q (by
          rcases List.mem_append.mp hq with h | h
          · exact List.mem_append_left _ h
          · exact List.mem_append_right _ (.tail _ h)) e
        rw [this]
        exact List.mem_append_right _ (.tail _ (.head _))
      · exact List.mem_append_left _ (List.mem_filter.mpr ⟨hq, decide_eq_true e⟩)
    rcases List.mem_append.mp hq with h | h
    · exact mid q (List.mem_append_left _ h)
    · rcases List.mem_cons.mp h with rfl | h
      · exact List.mem_append_right _ (.head _)
      · exact mid q (List.mem_append_right _ h)
end
end VJ
end

section
open PySem PySem.W PyProof.Rows PySem.Calls PySem.Spec PyProof.V
namespace VJ
set_option maxRecDepth 100000
section
variable {prog : Program} {w : World} {A : Around} {E : Value → Shared → Prop} {s : Shared} {d D : Addr} {n1 n2 : Nat} {es : List DictEntry}
theorem merge0 {Q : Unit → Shared → Prop} (h1 : s.heap.get? d = some (dictOf es n1)) (h2 : s.heap.get? D = some (dictOf [] n2)) (hn : (D == sysModules) = false) (hq : Q () s) : wpAny (model prog w) A (mergeMapping d (.ref D) true) Q E s := by
  have hT : s.TypeIs (.ref D) "dict" := ⟨_, h2, rfl⟩
  unfold mergeMapping
  refine wpAny_bind (wpAny_isInstance hT isSubtype_dict_dict ?_)
  dsimp only
  rw [if_pos rfl]
  refine wpAny_bind (wpAny_specialOf hT F.slot_dict_iter.lookup (wpAny_bind (wpAny_pure ?_)))
  simp only [beq_self_eq_true]
  rw [if_neg (by rw [hn]; decide)]
  refine wpAny_bind (wpAny_dictEntries h1 rfl ?_)
  split
  · refine wpAny_bind (wpAny_dictEntries h2 rfl ?_)
    refine wpAny_bind ?_
    simp only [List.forIn_toArray, List.forIn_nil]
    refine wpAny_pure ?_
    refine wpAny_bind (wpAny_dictEntries h2 rfl ?_)
    refine wpAny_bind (wpAny_dictEpoch h2 rfl ?_)
    simp only [List.size_toArray, List.length_nil, List.range_zero, List.forIn_nil]
    exact wpAny_bind (wpAny_pure (wpAny_pure hq))
  · refine wpAny_bind (wpAny_dictEntries h2 rfl ?_)
    refine wpAny_bind (wpAny_dictEpoch h2 rfl ?_)
    simp only [List.size_toArray, List.length_nil, List.range_zero, List.forIn_nil]
    exact wpAny_bind (wpAny_pure (wpAny_pure hq))
/-- one entry, by a text, into an empty dict -/
theorem merge1 {Q : Unit → Shared → Prop} {x : Str} {tk : Tok} {v : Value} (hdD : d ≠ D) (h1 : s.heap.get? d = some (dictOf [] n1)) (h2 : s.heap.get? D = some (dictOf [⟨PyData.keyHash w.params x, .str x tk, v⟩] n2)) (hn : (D == sysModules) = false)
    (hq : ∀ h', h'.get? d = some (dictOf [⟨PyData.keyHash w.params x, .str x tk, v⟩] (n1 + 1)) → Heap.SameBut d s.heap h' → Q () { s with heap := h' }) : wpAny (model prog w) A (mergeMapping d (.ref D) true) Q E s := by
  have hT : s.TypeIs (.ref D) "dict" := ⟨_, h2, rfl⟩
  unfold mergeMapping
  refine wpAny_bind (wpAny_isInstance hT isSubtype_dict_dict ?_)
  dsimp only
  rw [if_pos rfl]
  refine wpAny_bind (wpAny_specialOf hT F.slot_dict_iter.lookup (wpAny_bind (wpAny_pure ?_)))
  simp only [beq_self_eq_true]
  rw [if_neg (by rw [hn]; decide)]
  refine wpAny_bind (wpAny_dictEntries h1 rfl ?_)
  rw [if_pos (show (#[] : Array DictEntry).isEmpty = true from rfl)]
  refine wpAny_bind (wpAny_dictEntries h2 rfl ?_)
  refine wpAny_bind ?_
  simp only [List.forIn_toArray, List.forIn_cons, List.forIn_nil]
  refine wpAny_bind (wpAny_pure (wpAny_pure ?_))
  refine wpAny_bind (wpAny_dictEntries h2 rfl ?_)
  refine wpAny_bind (wpAny_dictEpoch h2 rfl ?_)
  simp only [List.size_toArray, List.length_cons, List.length_nil, show List.range (0 + 1) = [0] from rfl, List.forIn_cons, List.forIn_nil]
  refine wpAny_bind (wpAny_bind (wpAny_bind (wpAny_dictEntries h2 rfl ?_)))
  simp only [List.getElem?_toArray, List.getElem?_cons_zero]
  refine wpAny_bind (wpAny_holding ?_)
  rw [if_pos trivial]
  have none0 : (#[] : Array DictEntry).findIdx? (fun e => (strKind prog w).is x e.key) = none := by simp
  have kz : KeysOf (strKind prog w) (#[] : Array DictEntry) := fun e he => by simp at he
  refine wpAny_bind (wpAny_dictFind_of (knd := strKind prog w) (k := x) (strKind_is prog w x tk) h1 rfl kz ?_)
  rw [none0]
  simp only [Option.isSome_none, Bool.false_eq_true, if_false]
  unfold dictPut
  refine wpAny_bind (wpAny_dictFind_of (knd := strKind prog w) (k := x) (strKind_is prog w x tk) h1 rfl kz ?_)
  rw [none0]
  dsimp only
  have g1 : (s.heap.update d (Obj.mapDictKeys fun es => es.push ⟨PyData.keyHash w.params x, .str x tk, v⟩)).get? d = some (dictOf [⟨PyData.keyHash w.params x, .str x tk, v⟩] (n1 + 1)) := by
    refine (Heap.get?_update_self _ h1 rfl).trans ?_
    rfl
  have g2 : (s.heap.update d (Obj.mapDictKeys fun es => es.push ⟨PyData.keyHash w.params x, .str x tk, v⟩)).get? D = some (dictOf [⟨PyData.keyHash w.params x, .str x tk, v⟩] n2) := by
    rw [Heap.get?_update_other _ _ hdD]; exact h2
  refine wpAny_updateDictKeys h1 rfl ?_ (by size_fits) (by grows_one)
  refine wpAny_bind (wpAny_dictEpoch g2 rfl ?_)
  rw [if_neg (by simp)]
  refine wpAny_pure ?_
  refine wpAny_pure ?_
  exact wpAny_pure (hq _ g1 (Heap.SameBut.update ..))
end
end VJ
end

section
open PySem PySem.W PyProof.Rows PySem.Calls PySem.Spec PyProof.V
namespace VJ
set_option maxRecDepth 100000
section
variable {prog : Program} {w : World} {A : Around} {E : Value → Shared → Prop} {s : Shared} {h₀ : Heap} {L D : Addr} {m : Str → Option Value} {news : List (Addr × Obj)} {env : Env}
theorem evalArgs_star {f : Value} {a : PySem.Expr} {kw : Str} {p p1 p2 : Pos} {n : Nat} {v : Value} {Q : Args → Shared → Prop} (F1 : Fr h₀ L s.heap m) (N1 : News h₀ L s.heap news) (hD : (D, dictOf [] n) ∈ news) (hs : starEach [a] env = [(false, eval a env)]) (hsys : (D == sysModules) = false)
    (hla : ∀ (Q' : Value → Shared → Prop), Q' v s → wpAny (model prog w) A (eval a env) Q' E s)
    (hld : ∀ (s' : Shared) (Q' : Value → Shared → Prop), Fr h₀ L s'.heap m → Q' (.ref D) s' → wpAny (model prog w) A (eval (.Name kw p1) env) Q' E s')
    (hQ : ∀ d h', Fr h₀ L h' m → News h₀ L h' ((d, dictOf [] 0) :: news) → (∀ q ∈ news, q.1 < d) → Q ⟨[v], []⟩ { s with heap := h' }) :
    wpAny (model prog w) A (evalArgs f true (backTo p (starEach [a] env)) (backToKw p (keywordEach [⟨none, .Name kw p1, p2⟩] env))) Q E s := by
  rw [hs]
  show wpAny (model prog w) A (evalArgs f true [(false, eval a env)] [(none, do let v ← eval (.Name kw p1) env; standAt p; pure v)]) Q E s
  unfold evalArgs
  dsimp only
  refine wpAny_bind (wpAny_bind ?_)
  refine hla _ ?_
  dsimp only
  rw [if_neg Bool.false_ne_true]
  refine wpAny_bind (wpAny_pure (wpAny_bind (wpAny_holding ?_)))
  show wpAny _ _ (pure []) _ _ _
  refine wpAny_pure (wpAny_pure (wpAny_bind (wpAny_pure ?_)))
  dsimp only
  refine wpAny_holding ?_
  rw [if_neg (by simp)]
  have F2 : Fr h₀ L (s.heap.push (dictOf [] 0)) m := F1.push _
  have N2 : News h₀ L (s.heap.push (dictOf [] 0)) ((s.heap.objs.size, dictOf [] 0) :: news) := News.push F1 N1 _ rfl
  refine wpAny_bind ?_
  unfold mergedKeywords
  refine wpAny_bind (wpAny_alloc ?_)
  refine wpAny_bind (wpAny_holding ?_)
  refine wpAny_bind ?_
  rw [List.forIn_cons]
  refine wpAny_bind (wpAny_bind (wpAny_pure ?_))
  refine wpAny_bind (wpAny_bind (hld _ _ F2 (wpAny_bind (wpAny_standAt (wpAny_pure ?_)))))
  refine wpAny_bind (wpAny_onRaise (wpAny_holding (wpAny_tryCatch (wpAny_onRaise (merge0 (N2 _ (.head _)).1 (N2 _ (.tail _ hD)).1 hsys ?_)))))
  refine wpAny_pure ?_
  dsimp only
  rw [List.forIn_nil]
  refine wpAny_pure ?_
  show wpAny _ _ (pure ()) _ _ _
  refine wpAny_pure (wpAny_pure ?_)
  refine wpAny_bind (wpAny_pure ?_)
  refine wpAny_bind (wpAny_holding ?_)
  unfold keywordsIn
  refine wpAny_bind (wpAny_dictEntries (N2 _ (.head _)).1 rfl ?_)
  refine wpAny_bind ?_
  rw [List.forIn_toArray, List.forIn_nil]
  refine wpAny_pure (wpAny_pure (wpAny_pure ?_))
  exact hQ _ _ F2 N2 fun q hq => Heap.lt_size (N1 q hq).1
theorem evalArgs_nameStar {f : Value} {a : PySem.Expr} {nm kw nv : Str} {p p1 p2 p3 p4 : Pos} {n : Nat} {v v0 : Value} {Q : Args → Shared → Prop} (F1 : Fr h₀ L s.heap m) (N1 : News h₀ L s.heap news) (hD : (D, dictOf [] n) ∈ news) (hs : starEach [a] env = [(false, eval a env)]) (hsys : (D == sysModules) = false) (hmod : sysModules < h₀.objs.size)
    (hla : ∀ (Q' : Value → Shared → Prop), Q' v s → wpAny (model prog w) A (eval a env) Q' E s)
    (hld2 : ∀ (s' : Shared) (Q' : Value → Shared → Prop), Fr h₀ L s'.heap m → Q' v0 s' → wpAny (model prog w) A (eval (.Name nv p3) env) Q' E s')
    (hld : ∀ (s' : Shared) (Q' : Value → Shared → Prop), Fr h₀ L s'.heap m → Q' (.ref D) s' → wpAny (model prog w) A (eval (.Name kw p1) env) Q' E s')
    (hQ : ∀ h' tk, Fr h₀ L h' m → News h₀ L h' news → Q ⟨[v], [(nm, v0)]⟩ { s with heap := h', toks := tk }) :
    wpAny (model prog w) A (evalArgs f true (backTo p (starEach [a] env)) (backToKw p (keywordEach [⟨some nm, .Name nv p3, p4⟩, ⟨none, .Name kw p1, p2⟩] env))) Q E s := by
  rw [hs]
  show wpAny (model prog w) A (evalArgs f true [(false, eval a env)] [(some nm, do let v ← eval (.Name nv p3) env; standAt p; pure v), (none, do let v ← eval (.Name kw p1) env; standAt p; pure v)]) Q E s
  unfold evalArgs
  dsimp only
  refine wpAny_bind (wpAny_bind ?_)
  refine hla _ ?_
  dsimp only
  rw [if_neg Bool.false_ne_true]
  refine wpAny_bind (wpAny_pure (wpAny_bind (wpAny_holding ?_)))
  show wpAny _ _ (pure []) _ _ _
  refine wpAny_pure (wpAny_pure (wpAny_bind (wpAny_pure ?_)))
  dsimp only
  refine wpAny_holding ?_
  rw [if_neg (by simp)]
  have F2 : Fr h₀ L (s.heap.push (dictOf [] 0)) m := F1.push _
  have N2 : News h₀ L (s.heap.push (dictOf [] 0)) ((s.heap.objs.size, dictOf [] 0) :: news) := News.push F1 N1 _ rfl
  have l2 : ∀ q ∈ news, q.1 < s.heap.objs.size := fun q hq => Heap.lt_size (N1 q hq).1
  refine wpAny_bind ?_
  unfold mergedKeywords
  refine wpAny_bind (wpAny_alloc ?_)
  refine wpAny_bind (wpAny_holding ?_)
  refine wpAny_bind ?_
  rw [List.forIn_cons]
  refine wpAny_bind (wpAny_pure ?_)
  dsimp only
  rw [List.forIn_cons]
  refine wpAny_bind (wpAny_bind ?_)
  rw [if_neg (by simp)]
  dsimp only [List.nil_append, List.map_cons, List.map_nil]
  refine wpAny_bind ?_
  unfold evalAll
  refine wpAny_bind (wpAny_bind (hld2 _ _ F2 (wpAny_bind (wpAny_standAt (wpAny_pure ?_)))))
  refine wpAny_bind (wpAny_holding ?_)
  unfold evalAll
  refine wpAny_pure (wpAny_pure ?_)
  have F3 := F2.push (dictOf [] 0)
  have N3 := News.push F2 N2 (dictOf [] 0) rfl
  have l3 : ∀ q ∈ ((s.heap.objs.size, dictOf [] 0) :: news), q.1 < (s.heap.push (dictOf [] 0)).objs.size := fun q hq => Heap.lt_size (N2 q hq).1
  refine wpAny_bind (wpAny_alloc ?_)
  refine wpAny_bind ?_
  dsimp only [List.zip_cons_cons, List.zip_nil_right]
  rw [List.forIn_cons]
  refine wpAny_bind (wpAny_bind (kp_nsSet F3 N3 (fun q hq => Nat.ne_of_lt (l3 q hq)) (fun _ h => nomatch h) (fun _ h => nomatch h) fun h4 F4 N4 => wpAny_pure ?_))
  dsimp only
  rw [List.zip_nil_left, List.forIn_nil]
  refine wpAny_pure ?_
  have g4d := (N4 _ (.tail _ (.head _))).1
  have hds : s.heap.objs.size ≠ (s.heap.push (dictOf [] 0)).objs.size := Nat.ne_of_lt (l3 _ (.head _))
  refine wpAny_onRaise (wpAny_holding (wpAny_tryCatch (wpAny_onRaise (merge1 hds g4d (N4 _ (.head _)).1 (F2.notModules hmod) fun h5 g5 sb5 => ?_))))
  have F5 : Fr h₀ L h5 m := F4.change sb5 (N4 _ (.tail _ (.head _))).2.1 (N4 _ (.tail _ (.head _))).2.2
  have N5 : News h₀ L h5 news := fun q hq => ⟨(sb5.2 q.1 (Nat.ne_of_lt (l2 q hq))).trans (N4 q (.tail _ (.tail _ hq))).1, (N4 q (.tail _ (.tail _ hq))).2⟩
  refine wpAny_bind (wpAny_bind (hld _ _ F5 (wpAny_bind (wpAny_standAt (wpAny_pure ?_)))))
  refine wpAny_bind (wpAny_onRaise (wpAny_holding (wpAny_tryCatch (wpAny_onRaise (merge0 g5 (N5 _ hD).1 hsys ?_)))))
  refine wpAny_pure ?_
  dsimp only
  rw [List.forIn_nil]
  refine wpAny_pure ?_
  show wpAny _ _ (pure ()) _ _ _
  refine wpAny_pure (wpAny_pure ?_)
  refine wpAny_bind (wpAny_pure ?_)
  refine wpAny_bind (wpAny_holding ?_)
  unfold keywordsIn
  refine wpAny_bind (wpAny_dictEntries g5 rfl ?_)
  refine wpAny_bind ?_
  rw [List.forIn_toArray, List.forIn_cons]
  refine wpAny_bind (wpAny_pure ?_)
  dsimp only
  rw [List.forIn_nil]
  refine wpAny_pure (wpAny_pure (wpAny_pure ?_))
  exact hQ _ _ F5 N5
end
end VJ
end

section
open PySem PySem.W PyProof.Rows PySem.Calls PySem.Spec PyProof.V
namespace VJ
set_option maxRecDepth 100000
section
variable {α : Type} {prog : Program} {w : World} {M : Model} {A : Around} {c : Code} {E : Value → Shared → Prop} {s : Shared} {env : Env} {f : Value} {first : List Value} {pos : Pos}
theorem callWith_star {P : Heap → Prop} {Q : Value → Shared → Prop} {args : List (Bool × Sem Value)} {keywords : List (Option Str × Sem Value)} (hst : (args.any (·.1) || keywords.any (·.1.isNone)) = true)
    (hk : ∀ h, P h → ∃ k, (k = Keeper.frame ∨ k = Keeper.machine ∨ k = Keeper.boundFrame) ∧ Looks M h (keeperOf f) k)
    (h : wpAny M A (evalArgs f true args keywords) (fun a s₁ => P s₁.heap ∧ wpAny M A (call f (first ++ a.pos) a.kw) Q E s₁) E s) : wpAny M A (callWith pos f first args keywords) Q E s := by
  unfold callWith
  refine wpAny_bind (wpAny_holding (wpAny_mono h (fun a s₁ h₁ => wpAny_bind (wpAny_standAt ?_)) fun _ _ x => x))
  obtain ⟨k, hk', L⟩ := hk _ h₁.1
  simp only [hst]
  refine wpAny_bind (L.here ?_)
  have tail : ∀ {t : Sem Value}, wpAny M A t Q E s₁ → wpAny M A (t >>= fun r => holding [r] point >>= fun _ => pure r) Q E s₁ :=
    fun ht => wpAny_bind (wpAny_mono ht (fun r s₂ hr => wpAny_bind (wpAny_holding (wpAny_point (wpAny_pure hr)))) fun _ _ x => x)
  have marked (mk : Value) : wpAny M A (callMarked mk f (first ++ a.pos) a.kw) Q E s₁ := by unfold callMarked; exact Calls.wpAny_keep h₁.2
  rcases hk' with rfl | rfl | rfl <;> dsimp only <;> first | exact tail (marked _) | exact tail (PyProof.Rows.wpAny_operate' h₁.2)
theorem ks_wpAt_MethodCallS {o : PySem.Expr} {name : Str} {apos : Pos} {args : List PySem.Expr} {kws : List Keyword} {Q : Value → Shared → Prop}
    (h : _root_.PySem.wpAt M A c (attributeBase o name env (eval o env)) (fun ov s₁ => wpAny M A (getAttr ov name true) (fun f s₂ => wpAny M A (callWith pos f [] (backTo pos (starEach args env)) (backToKw pos (keywordEach kws env))) Q E s₂) E s₁) E s)
    (he : eval (.Call (.Attribute o name apos) args kws pos) env = (do
      let ov ← attributeBase o name env (eval o env)
      standAt apos.atName
      let (f, first) ← holding [ov] (do pure (← getAttr ov name true, []))
      callWith pos f first (backTo pos (starEach args env)) (backToKw pos (keywordEach kws env))) := by rfl) :
    _root_.PySem.wpAt M A c (eval (.Call (.Attribute o name apos) args kws pos) env) Q E s := by
  rw [he]
  refine _root_.PySem.wpAt_bind (ks_wpAt_mono h (fun ov s₁ h₁ => _root_.PySem.wpAt_of_wpAny (wpAny_bind (wpAny_standAt (wpAny_bind (wpAny_holding (wpAny_bind (wpAny_mono h₁ (fun fx s₂ h₂ => wpAny_pure ?_) fun _ _ x => x))))))) fun _ _ x => x)
  exact h₂
end
section
variable {prog : Program} {w : World} {A : Around} {E : Value → Shared → Prop} {s : Shared} {h₀ : Heap} {L : Addr} {m : Str → Option Value} {news : List (Addr × Obj)} {K : Frag} {x C D f2 so : Addr} {ox : Obj} {odx : Option Obj}
theorem ks_getAttr_super {name : Str} {b : Bool} {Q : Value → Shared → Prop} (F : Fr h₀ L s.heap m) (X₀ : K.In h₀) (N : News h₀ L s.heap news) (hso : (so, ks_superObj D x C) ∈ news) (I : InstAt s.heap x ox C odx) (ho : nsIn K cStatics "thirdparty.any" = some none)
    (hm : ks_superIn K C D name = some (some (.ref f2))) (ht : typeIn K (.ref f2) = some (.type "function")) (hn : (name == ("__class__" : Str)) = false)
    (h : ∀ q h', Fr h₀ L h' m → News h₀ L h' ((q, methodObj (.ref f2) (.ref x)) :: news) → (∀ p ∈ news, p.1 < q) → Q (.ref q) { s with heap := h', toks := s.toks + 1 }) : wpAny (model prog w) A (getAttr (.ref so) name b) Q E s := by
  have X : K.In s.heap := X₀.keeps F.keep
  obtain ⟨hh, g, d, t, os⟩ := s
  cases hc : clsIn K C with
  | none => unfold ks_superIn at hm; rw [hc] at hm; cases hm
  | some cd =>
    unfold ks_superIn at hm
    rw [hc] at hm
    obtain ⟨of, hof, hofc⟩ : ∃ of, hh.get? f2 = some of ∧ of.cls = .type "function" := by
      have ht' : (K.lookup f2).map (·.cls) = some (.type "function") := ht
      cases z : K.lookup f2 with
      | none => rw [z] at ht'; cases ht'
      | some of => rw [z] at ht'; exact ⟨of, X _ _ z, Option.some.inj ht'⟩
    have hq : Q (.ref hh.objs.size) ⟨hh.push { cls := .type "method", data := .fields #[.ref f2, .ref x] }, g, d, t + 1, os⟩ := by
      obtain ⟨F', N', l'⟩ := ks_newsPush (s := ⟨hh, g, d, t, os⟩) (o := methodObj (.ref f2) (.ref x)) F N rfl (Heap.get?_push_at rfl rfl) (fun b o e => Heap.get?_push_of_some _ e)
      exact h _ _ F' N' l'
    have hC : Looks (model prog w) hh (mroOf (.ref C)) cd.mro := fun A Q E s k q => wpAny_bind ((looks_clsIn X hc) A _ E s k (wpAny_pure q))
    have hlk := PySem.F.ks_slot_super_ga.lookup
    have hT : ∀ t', (⟨hh, g, d, t', os⟩ : Shared).TypeIs (.ref so) "super" := fun _ => ⟨_, (N _ hso).1, rfl⟩
    unfold getAttr getAttrBy
    refine wpAny_bind (wpAny_mkText (wpAny_holding (wpAny_bind (wpAny_typeOf (hT _) (wpAny_bind (wpAny_of_eq hlk ?_))))))
    show wpAny _ _ (getAttrByItsOwn (.ref so) (.str name t) (.type "super") (.builtin "super.__getattribute__") true b) _ _ _
    unfold getAttrByItsOwn hookBefore callGetattribute boundAndCalled
    refine wpAny_bind (wpAny_of_eq (show (if onTheHeap (.type "super") then typeLookup (.type "super") "__getattr__" else pure none) = pure none from rfl) ?_)
    refine wpAny_bind (wpAny_attempt (wpAny_holding ?_))
    rw [if_neg (by rw [show onTheHeap (Value.builtin "super.__getattribute__") = false from rfl, Bool.and_false]; decide)]
    show wpAny _ _ (bindSpecial (.builtin "super.__getattribute__") (.ref so) >>= _) _ _ _
    refine wpAny_bind (wpAny_of_eq (PySem.F.ks_slot_super_ga.bind _) ?_)
    refine wpAny_mono (Q := fun v s' => v = .ref hh.objs.size ∧ s' = ⟨hh.push { cls := .type "method", data := .fields #[.ref f2, .ref x] }, g, d, t + 1, os⟩) (E := fun _ _ => False)
      (wpAny_call_entry PySem.F.ks_slot_super_ga (hT _) PySem.F.ks_entry_super_ga (ks_wpAny_super_ga (N _ hso).1 (looks_opaque X ho) hC rfl X hm hof hofc (ks_ne X I hc) hn ⟨_, rfl, rfl, rfl⟩) (PySem.F.ks_gaArgs_super _ _)) (fun v s' hv => ?_) fun _ _ z => z.elim
    obtain ⟨rfl, rfl⟩ := hv
    exact wpAny_pure hq
end
end VJ
end

section
open PySem PySem.W PyProof.Rows PySem.Calls
namespace VJ
set_option maxRecDepth 100000
theorem fillC2 : K9 = K9 ∧ PySem.Challenge.rw_vj0024_01 = PySem.Challenge.rw_vj0024_01 := by
  k_fill
  exact ⟨rfl, rfl⟩
local macro_rules | `(tactic| k_all) => `(tactic| first | assumption | exact allNe1 (by assumption) (by omega))
local macro_rules | `(tactic| k_room) => `(tactic| first | omega | (simp only [depth_under_make, depth_under_kw, depth_in1, depth_deeper]; omega))
local macro_rules | `(tactic| ks_enter) => `(tactic| (refine' ks_code_super ?k1 ?k2 ?k3 ?k4 ?k5 ?kA ?kF ?kK ?k6 ?k7 ?k8 ?k9 ?kB ?_ ?c1 ?c2 ?c3 ?c4; (case kA => exact rfl); (case kF => exact rfl); (case kK => exact rfl); (case k1 => k_asm); (case k2 => k_asm); (case k3 => k_asm); (case k4 => k_asm); (case k5 => k_asm); (case k6 => k_is); (case k7 => k_is); (case k8 => k_room); (case k9 => exact binds_K (by k_in) rfl (by k_is) rfl rfl rfl); (case kB => exact locs rfl); (case c1 => decide); (case c2 => exact rfl); (case c3 => exact rfl); (case c4 => exact rfl); intro g' L' h' FG' F' N' B' X' T' l1; (try k_lt l1); (try dsimp only); (try k_lift B')))
local macro_rules | `(tactic| ks_enter) => `(tactic| (refine' ks_both ?k1 ?k2 ?k3 ?k4 ?k5 ?kA ?kF ?kK ?k6 ?k7 ?k8 ?kV ?kX ?kQ ?kM ?kN ?kR ?kP ?kS ?kT ?kB ?_ ?c2 ?c3 ?c4 ?c5; (case kA => exact rfl); (case kF => exact rfl); (case kK => exact rfl); (case k1 => k_asm); (case k2 => k_asm); (case k3 => k_asm); (case k4 => k_asm); (case k5 => k_asm); (case k6 => k_is); (case k7 => k_is); (case k8 => k_room); (case kV => kp_lit); (case kX => kp_lit); (case kQ => exact rfl); (case kM => exact rfl); (case kN => exact rfl); (case kR => exact rfl); (case kP => exact rfl); (case kS => exact fun _ => rfl); (case kT => exact fun _ _ => rfl); (case kB => exact fun _ _ => locs rfl); (case c5 => decide); (case c2 => exact rfl); (case c3 => exact rfl); (case c4 => exact rfl); intro C' D' o' g' L' h' tk' l1 l2 lo' hs' FG' F' N' B' X' T'; (try k_lt l1); (try k_lt2 l2); (try dsimp only); (try k_lift B')))
local macro_rules | `(tactic| walk_at "wpAt") => `(tactic| (ks_step "attributeBase Call"; k_here; k_dflt (refine ks_node (by k_asm) (by k_asm) (by k_asm) (by k_asm) (by k_is) (by rfl) (by rfl) (by k_inst) (by k_is) (by rfl) (by assumption) (by k_is) (by k_is) (by k_is) (by k_is) (by decide) (by rfl) (by rfl) (by rfl) (by rfl) (by assumption) (by first | boot_by_name | rfl | kernel_rfl) ?_; intro so' h' F' N' l1; (try k_lt l1))))
local macro_rules | `(tactic| walk_at "wpAt") => `(tactic| (k_dflt (ks_step "exec Expr"; refine ks_wpAt_Expr_any ?_)))
local macro_rules | `(tactic| walk_at "wpAt") => `(tactic| (k_dflt (ks_step "eval Call"; refine ks_wpAt_MethodCall ?_)))
local macro_rules | `(tactic| ks_enter) => `(tactic| (refine' ks_more ?k1 ?k2 ?k3 ?k4 ?k5 ?kA ?kF ?kK ?k6 ?k7 ?k8 ?kX ?kM ?kN ?kR ?kP ?kT ?kB ?_ ?c2 ?c3 ?c4 ?c5; (case kA => exact rfl); (case kF => exact rfl); (case kK => exact rfl); (case k1 => k_asm); (case k2 => k_asm); (case k3 => k_asm); (case k4 => k_asm); (case k5 => k_asm); (case k6 => k_is); (case k7 => k_is); (case k8 => k_room); (case kX => kp_lit); (case kM => exact rfl); (case kN => exact rfl); (case kR => exact rfl); (case kP => exact rfl); (case kT => exact fun _ => rfl); (case kB => exact fun _ => locs rfl); (case c5 => decide); (case c2 => exact rfl); (case c3 => exact rfl); (case c4 => exact rfl); intro D' g' L' h' tk' n' l1 lo' FG' F' N' B' X' T'; (try k_lt l1); (try dsimp only); (try k_lift B')))
local macro_rules | `(tactic| walk_at "wpAt") => `(tactic| (k_dflt (ks_step "eval Call"; refine ks_wpAt_MethodCallS ?_)))
local macro_rules | `(tactic| walk_at "getAttr ref") => `(tactic| (k_here; ks_any; k_dflt (refine' ks_getAttr_super ?k1 ?k2 ?k3 ?k4 ?k5 ?k6 ?k7 ?k8 ?k9 ?_; (case k1 => k_asm); (case k2 => k_asm); (case k3 => k_asm); (case k4 => k_mem); (case k5 => k_inst); (case k6 => k_is); (case k7 => ks_is); (case k8 => k_is); (case k9 => decide); intro q' h' F' N' l1; (try k_lt l1))))
local macro_rules | `(tactic| walk_at "callWith ref") => `(tactic| ((with_reducible show wpAny _ _ (callWith _ (Value.ref _) [] _ (backToKw _ (keywordEach (_ :: _) _))) _ _ _); k_dflt (refine halt_of ?_)))
local macro_rules | `(tactic| walk_at "callWith") => `(tactic| ((with_reducible show wpAny _ _ (callWith _ (Value.ref _) [] _ (backToKw _ (keywordEach (_ :: _) _))) _ _ _); k_dflt (refine halt_of ?_)))
section
variable {prog : Program} {w : World} {dp un : Nat} {gd : Option (List Code)} {env : Env} {outer : List Env} {base G : Heap} {p : Program} {loose : List Str} {mean : ExcName → Option Value} {mg mb : Str → Option Value} {s : Shared} {L : Addr} {m : Str → Option Value} {news : List (Addr × Obj)} 
set_option maxHeartbeats 4000000 in
theorem look_K {a1 : Addr} {g : Bool} {E Q : Value → Shared → Prop} (pf : (prog.main.file == Str.ofString "/claim/cut.py") = true) (ps : (prog.main.scope.names.lookup (Str.ofString "super")).isSome = false) (hdd : dp + 20 < recursionLimit) (hu : un + 60 < cLine) (F : Fr G L s.heap m) (N : News G L s.heap news) (B : Below { handled := none, depth := dp, frames := some (env :: outer), guards := gd, units := un } base (env :: outer) G) (X : (K9 w.params).In G) (T : Top p loose mean mg mb G)
    (h : ∀ a d M idt tn h' tk', Fr G L h' m → News G L h' ((a, exprO 489 d #[some (.bool g), some (.ref M), some idt, some (.str (Str.ofString "") tn)]) :: (d, dictOf [] 0) :: (M, tupOf [.ref a1]) :: news) → (∀ q ∈ news, q.1 < d) → @LT.lt Nat _ d a → @LT.lt Nat _ a M → Q (.ref a) { s with heap := h', toks := tk' }) :
    wpAny (model prog w) (Around.deeper { handled := none, depth := dp, frames := some (env :: outer), guards := gd, units := un } (gEnv L)) (call (.ref 489) [.ref a1] [(Str.ofString "negative", .bool g)]) Q E s := by
  k_steps
  unfold Halt
  rename News _ _ _ _ => N1
  rename Fr _ _ _ _ => F1
  rename Below _ _ _ _ => B1
  rename (K9 w.params).In _ => X1
  rename (_ == sysModules) = false => hsys
  refine callWith_star (P := fun h => ∃ z, MethP (K9 w.params) _ 387 z h) rfl (fun h ⟨z, hz⟩ => keeps_M (by k_is) h hz) ?_
  refine' evalArgs_star F1 N1 ?hD rfl hsys ?la ?ld ?hQ
  case hD => k_mem
  case la =>
    intro Q' hq
    k_steps
    exact hq
  case ld =>
    intro s' Q' F' hq
    clear F1 N1
    k_steps
    exact hq
  case hQ =>
    intro d2 h2 F2 N2 l2
    refine ⟨⟨_, methP N2 (by k_mem) (X1.keeps F2.keep)⟩, ?_⟩
    clear F1 N1
    (try k_lt l2)
    k_steps
    rename News _ _ _ _ => N9
    rename Fr _ _ _ _ => F9
    exact h _ _ _ _ _ _ _ F9 (fun q hq => N9 q (sub3 (by k_mem) (by k_mem) (by k_mem) (fun q hq => by (repeat (refine List.Mem.tail _ ?_)); exact hq) q hq)) (by assumption) (by assumption) (by omega)
set_option maxHeartbeats 4000000 in
theorem many_K {a1 : Addr} {i1 : Int} {u1 : Tok} {E Q : Value → Shared → Prop} (pf : (prog.main.file == Str.ofString "/claim/cut.py") = true) (ps : (prog.main.scope.names.lookup (Str.ofString "super")).isSome = false) (hdd : dp + 20 < recursionLimit) (hu : un + 60 < cLine) (F : Fr G L s.heap m) (N : News G L s.heap news) (B : Below { handled := none, depth := dp, frames := some (env :: outer), guards := gd, units := un } base (env :: outer) G) (X : (K9 w.params).In G) (T : Top p loose mean mg mb G)
    (h : ∀ a d M idt tn tf h' tk', Fr G L h' m → News G L h' ((a, exprO 528 d #[some (.float 9218868437227405312 tf), some (.int i1 u1), some (.ref M), some idt, some (.str (Str.ofString "") tn)]) :: (d, dictOf [] 0) :: (M, tupOf [.ref a1]) :: news) → (∀ q ∈ news, q.1 < d) → @LT.lt Nat _ d a → @LT.lt Nat _ a M → Q (.ref a) { s with heap := h', toks := tk' }) :
    wpAny (model prog w) (Around.deeper { handled := none, depth := dp, frames := some (env :: outer), guards := gd, units := un } (gEnv L)) (call (.ref 528) [.ref a1] [(Str.ofString "min", .int i1 u1)]) Q E s := by
  k_steps
  unfold Halt
  rename News _ _ _ _ => N1
  rename Fr _ _ _ _ => F1
  rename Below _ _ _ _ => B1
  rename (K9 w.params).In _ => X1
  rename (_ == sysModules) = false => hsys
  refine callWith_star (P := fun h => ∃ z, MethP (K9 w.params) _ 387 z h) rfl (fun h ⟨z, hz⟩ => keeps_M (by k_is) h hz) ?_
  refine' evalArgs_nameStar F1 N1 ?hD rfl hsys ?hm ?la ?ld2 ?ld ?hQ
  case hm => exact modules_low (Top.nolimit (by assumption))
  case ld2 =>
    intro s' Q' F' hq
    k_steps
    exact hq
  case hD => k_mem
  case la =>
    intro Q' hq
    k_steps
    exact hq
  case ld =>
    intro s' Q' F' hq
    clear F1 N1
    k_steps
    exact hq
  case hQ =>
    intro h2 tk2 F2 N2
    refine ⟨⟨_, methP N2 (by k_mem) (X1.keeps F2.keep)⟩, ?_⟩
    clear F1 N1
    k_steps
    rename News _ _ _ _ => N9
    rename Fr _ _ _ _ => F9
    exact h _ _ _ _ _ _ _ _ F9 (fun q hq => N9 q (sub3 (by k_mem) (by k_mem) (by k_mem) (fun q hq => by (repeat (refine List.Mem.tail _ ?_)); exact hq) q hq)) (by assumption) (by assumption) (by omega)
set_option maxHeartbeats 4000000 in
theorem manyM_K {a1 : Addr} {i1 i2 : Int} {u1 u2 : Tok} {E Q : Value → Shared → Prop} (pf : (prog.main.file == Str.ofString "/claim/cut.py") = true) (ps : (prog.main.scope.names.lookup (Str.ofString "super")).isSome = false) (hdd : dp + 20 < recursionLimit) (hu : un + 60 < cLine) (F : Fr G L s.heap m) (N : News G L s.heap news) (B : Below { handled := none, depth := dp, frames := some (env :: outer), guards := gd, units := un } base (env :: outer) G) (X : (K9 w.params).In G) (T : Top p loose mean mg mb G)
    (h : ∀ a d M idt tn h' tk', Fr G L h' m → News G L h' ((a, exprO 528 d #[some (.int i2 u2), some (.int i1 u1), some (.ref M), some idt, some (.str (Str.ofString "") tn)]) :: (d, dictOf [] 0) :: (M, tupOf [.ref a1]) :: news) → (∀ q ∈ news, q.1 < d) → @LT.lt Nat _ d a → @LT.lt Nat _ a M → Q (.ref a) { s with heap := h', toks := tk' }) :
    wpAny (model prog w) (Around.deeper { handled := none, depth := dp, frames := some (env :: outer), guards := gd, units := un } (gEnv L)) (call (.ref 528) [.ref a1] [(Str.ofString "min", .int i1 u1), (Str.ofString "max", .int i2 u2)]) Q E s := by
  k_steps
  unfold Halt
  rename News _ _ _ _ => N1
  rename Fr _ _ _ _ => F1
  rename Below _ _ _ _ => B1
  rename (K9 w.params).In _ => X1
  rename (_ == sysModules) = false => hsys
  refine callWith_star (P := fun h => ∃ z, MethP (K9 w.params) _ 387 z h) rfl (fun h ⟨z, hz⟩ => keeps_M (by k_is) h hz) ?_
  refine' evalArgs_nameStar F1 N1 ?hD rfl hsys ?hm ?la ?ld2 ?ld ?hQ
  case hm => exact modules_low (Top.nolimit (by assumption))
  case ld2 =>
    intro s' Q' F' hq
    k_steps
    exact hq
  case hD => k_mem
  case la =>
    intro Q' hq
    k_steps
    exact hq
  case ld =>
    intro s' Q' F' hq
    clear F1 N1
    k_steps
    exact hq
  case hQ =>
    intro h2 tk2 F2 N2
    refine ⟨⟨_, methP N2 (by k_mem) (X1.keeps F2.keep)⟩, ?_⟩
    clear F1 N1
    k_steps
    rename News _ _ _ _ => N9
    rename Fr _ _ _ _ => F9
    exact h _ _ _ _ _ _ _ F9 (fun q hq => N9 q (sub3 (by k_mem) (by k_mem) (by k_mem) (fun q hq => by (repeat (refine List.Mem.tail _ ?_)); exact hq) q hq)) (by assumption) (by assumption) (by omega)
end
end VJ
end

section
open PySem PySem.W PyProof.Rows PySem.Calls PySem.Spec PyProof.V
namespace VJ
set_option maxRecDepth 100000
theorem fillG1 : K9 = K9 ∧ PySem.Challenge.rw_vj0024_01 = PySem.Challenge.rw_vj0024_01 := by
  k_fill
  exact ⟨rfl, rfl⟩
local macro_rules | `(tactic| k_all) => `(tactic| assumption)
local macro_rules | `(tactic| k_room) => `(tactic| first | omega | (simp only [depth_under_make, depth_under_kw, depth_in1, depth_deeper]; omega))
local macro_rules | `(tactic| walk_at "subscriptTail") => `(tactic| (k_here; (with_reducible show wpAny _ _ (subscriptTail _ _ (Value.ref _) (Value.int _ _)) _ _ _); k_dflt (refine' item_text (ws := [(_, _), (_, _), (_, _), (_, _)]) ?k1 ?k2 ?k3 ?k4 ?k5 ?_; (case k1 => k_asm); (case k2 => k_mem); (case k3 => omega); (case k4 => (show _ < (4 : Int); omega)); (case k5 => omega); k_whole); intro wx' wt' wm'))
local macro_rules | `(tactic| walk_at "call builtin:len") => `(tactic| (k_here; (with_reducible show wpAny _ _ (call (Value.builtin "len") [Value.ref _]) _ _ _); k_dflt (refine' len_lst ?k1 ?k2 ?k3 ?_; (case k1 => k_asm); (case k2 => k_mem); (case k3 => (simp only [List.size_toArray, List.length_append, List.length_cons, List.length_nil]; omega)); k_whole)))
local macro_rules | `(tactic| walk_at "call builtin:list.append") => `(tactic| (k_here; (with_reducible show wpAny _ _ (call (Value.builtin _) [Value.ref _, _]) _ _ _); k_dflt (refine' append_lst ?k1 ?k2 ?k3 ?_ ?z; (case k1 => k_asm); (case k2 => k_asm); (case k3 => k_upd); (case z => (simp only [List.length_append, List.length_cons, List.length_nil]; omega)); k_whole); intro h' F' N'; (try k_sweep)))
local macro_rules | `(tactic| walk_at "call ref") => `(tactic| ((with_reducible show wpAny _ _ (call (Value.ref 567) _) _ _ _); k_dflt ((try dsimp only); first | (refine' next_use ?B ?F ?X ?N ?T ?hA ?hf ?hke ?hh ?hd ?hu ?U ?M ?hI ?h1 ?h2 ?h3 ?h4 ?hlen ?a1 ?_; (case B => k_asm); (case F => k_asm); (case X => k_asm); (case N => k_asm); (case T => k_asm); (case hA => exact rfl); (case hf => exact rfl); (case hke => exact rfl); (case hh => exact rfl); (case hd => (simp only [depth_in1, depth_deeper]; omega)); (case hu => (simp only [units_in1, units_deeper]; omega)); (case U => k_updF); (case M => k_mem); (case hI => assumption); (case h1 => decide); (case h2 => decide); (case h3 => omega); (case h4 => omega); (case hlen => assumption); (case a1 => k_ne); k_whole; intro v' tk' tk2' h' tk3' hv0' hv1' F' N'; (try dsimp only at N'); (try k_sweep)) | refine halt_of ?_)))

local macro_rules | `(tactic| walk_at "call ref") => `(tactic| ((with_reducible show wpAny _ _ (call (Value.ref 556) _) _ _ _); k_dflt ((try dsimp only); refine halt_of ?_)))
local macro_rules | `(tactic| walk_at "call ref") => `(tactic| ((with_reducible show wpAny _ _ (call (Value.ref 367) _) _ _ _); k_dflt ((try dsimp only); refine halt_of ?_)))
def GrownC (prog : Program) (w : World) (d : Int) (c : Int) (sz dn un : Nat) : Prop := ∀ (st sl pl : Addr) (i : Int) (tkd tkn tki : Tok) (n n' np : Nat) (nm : Str) (vs pv : List Value) (ns : List Int) (rest : Led1) (E : Nat → Ent) (T X D : Nat → Addr),
  IntsAre vs ns → 0 ≤ i → i + c ≤ 900 → ns.length ≤ 60 → @Ne Nat st sl → @Ne Nat st pl → @Ne Nat sl pl → (∀ q ∈ rest, q.1 ≠ st) → (∀ q ∈ rest, q.1 ≠ sl) → (∀ q ∈ rest, q.1 ≠ pl) → pv.length + sz ≤ 100 → 3 ≤ pv.length → nm.length ≤ 1 → GObj rest pv.length E T X D →
  Told prog w 574 [.ref st, .int d tkd, .ref pl, .str nm tkn] dn un ((st, listOf #[.ref sl, .int i tki] n) :: (sl, listOf vs.toArray n') :: (pl, listOf pv.toArray np) :: rest)
    (GRet st sl pl vs n' i c rest E T X D pv sz d) (fun _ => False)
theorem ne_all {z : Addr} {l : Led1} (h : ∀ p ∈ l, @Ne Nat p.1 z) : ∀ q ∈ l, q.1 ≠ z := h
set_option maxHeartbeats 4000000 in
theorem grown0 {prog : Program} {w : World} (pf : (prog.main.file == Str.ofString "/claim/cut.py") = true) (ps : (prog.main.scope.names.lookup (Str.ofString "super")).isSome = false) : GrownC prog w 0 2 1 110 1000 := by
  intro st sl pl i tkd tkn tki n n' np nm vs pv ns rest E T0 X0 D0 hI h3 h4' hlen a1 a2 a3 b1 b2 b3 hpv hpv3 hnm hg
  have h4 : i ≤ 800 + 100 := by omega
  refine told_def (by k_is) (by k_is) (by decide) (fun _ _ => BindsTo.of_eq rfl) (locs rfl) ?_
  intro dp un gd env outer base G p loose mean mg mb s L h₁ tk hdd hu F N hlt B X T
  (try dsimp only)
  k_fold
  have hrl : recursionLimit = 1000 := rfl
  have hcl : cLine = 9900 := rfl
  k_steps
  all_goals (try dsimp only)
  · unfold Halt
    rename News _ _ _ _ => N1
    rename Fr _ _ _ _ => F1
    rename_i v9 u1 u2 h8 u3 hv0 hv1 h9 z9
    obtain ⟨c, rfl, hc⟩ : ∃ c : Nat, v9 = c ∧ c < 3 := ⟨v9.toNat, by omega, by omega⟩
    refine lazy_K (x := nameOf c) (nameOf_len hc) F1 X N1 rfl (by simp only [depth_deeper]; omega) (by simp only [units_deeper]; omega) fun a d tk0 h2 tk2 F2 N2 hne => ?_
    clear F1 N1
    k_steps
    all_goals (try dsimp only)
    rename News _ _ _ _ => N3
    rename Fr _ _ _ _ => F3
    rename_i tup h10 l9
    obtain ⟨m1, m2, m3, m4, m5, m6⟩ := l9
    have e1 := hne _ (.head _)
    have e2 := hne _ (.tail _ (.head _))
    have e3 := hne _ (.tail _ (.tail _ (.head _)))
    refine back_of F3 (news' := (st, listOf #[.ref sl, .int (i + 1 + 1) _] n) :: (sl, listOf vs.toArray n') :: (pl, listOf pv.toArray np) :: (tup, tupOf [.int (c : Nat) _, .ref a]) :: (a, lazyObj d (nameOf c) tk0) :: (d, dictOf [] 0) :: rest) (List.forall_mem_cons.mpr ⟨N3 _ (by k_mem), List.forall_mem_cons.mpr ⟨N3 _ (by k_mem), List.forall_mem_cons.mpr ⟨N3 _ (by k_mem), List.forall_mem_cons.mpr ⟨N3 _ (by k_mem), List.forall_mem_cons.mpr ⟨N3 _ (by k_mem), List.forall_mem_cons.mpr ⟨N3 _ (by k_mem), fun q hq => N3 q (by (repeat (refine List.Mem.tail _ ?_)); exact hq)⟩⟩⟩⟩⟩⟩)
      ⟨_, _, _, _, pv, (tup, tupOf [.int (c : Nat) _, .ref a]) :: (a, lazyObj d (nameOf c) tk0) :: (d, dictOf [] 0) :: rest, E, T0, X0, D0, tup, c, _, a, rfl, rfl, .head _, by omega, by omega, ?_, ?_, ?_,
        ⟨⟨by omega, Nat.le_refl _⟩, fun _ _ => ⟨rfl, rfl, rfl, rfl⟩, fun _ _ => rfl, fun k h1 h2 => absurd h1 (by omega), hg.sup fun q hq => .tail _ (.tail _ (.tail _ hq)), fun q hq => .tail _ (.tail _ (.tail _ hq)), ⟨fun k => k, fun k h1 h2 => absurd h1 (by omega)⟩, .inl ⟨hc, d, tk0, .tail _ (.head _), .tail _ (.tail _ (.head _))⟩⟩, fun h => absurd h (by decide)⟩
    · intro q hq
      rcases List.mem_cons.mp hq with rfl | hq
      · exact Nat.ne_of_gt m3
      rcases List.mem_cons.mp hq with rfl | hq
      · exact Ne.symm e1.1
      rcases List.mem_cons.mp hq with rfl | hq
      · exact Ne.symm e1.2
      · exact b1 q hq
    · intro q hq
      rcases List.mem_cons.mp hq with rfl | hq
      · exact Nat.ne_of_gt m4
      rcases List.mem_cons.mp hq with rfl | hq
      · exact Ne.symm e2.1
      rcases List.mem_cons.mp hq with rfl | hq
      · exact Ne.symm e2.2
      · exact b2 q hq
    · intro q hq
      rcases List.mem_cons.mp hq with rfl | hq
      · exact Nat.ne_of_gt m5
      rcases List.mem_cons.mp hq with rfl | hq
      · exact Ne.symm e3.1
      rcases List.mem_cons.mp hq with rfl | hq
      · exact Ne.symm e3.2
      · exact b3 q hq
  · unfold Halt
    rename News _ _ _ _ => N1
    rename Fr _ _ _ _ => F1
    rename_i v9 u1 u2 g4 u3 hv0 hv1 x9 wt wm g3 u4 T9 g2 l9 g1
    have hx : x9.length ≤ 2 := by
      simp only [List.map_cons, List.map_nil, List.mem_cons, List.not_mem_nil, or_false] at wm
      rcases wm with rfl | rfl | rfl | rfl <;> decide +kernel
    obtain ⟨m1, m2, m3, m4, m5⟩ := l9
    refine lit_K pf ps (by omega) (by omega) F1 N1 B X T fun a d idt tn h2 tk2 F2 N2 l1 l2 => ?_
    clear F1 N1
    k_steps
    all_goals (try dsimp only)
    rename News _ _ _ _ => N3
    rename Fr _ _ _ _ => F3
    rename_i tup h10 l10
    obtain ⟨o1, o2, o3, o4, o5, o6, o7, o8⟩ := l10
    have e : ((((pv ++ [Value.ref T9]).toArray.size : Nat) : Int) - 1) = (pv.length : Nat) := by simp
    rw [e] at N3
    have hd : @LT.lt Nat _ T9 d := l1 _ (.head _)
    have hr : ∀ q ∈ rest, @LT.lt Nat _ q.1 d := fun q hq => Nat.lt_trans (tb_ltOf m5 q hq) hd
    refine back_of F3 (news' := (st, listOf #[.ref sl, .int (i + 1 + 1) _] n) :: (sl, listOf vs.toArray n') :: (pl, listOf (pv ++ [Value.ref T9]).toArray _) :: (tup, tupOf [.int (pv.length : Nat) _, .ref a]) :: (a, exprO 367 d #[some (.str x9 wt), some idt, some (.str (Str.ofString "") tn)]) :: (d, dictOf [] 0) :: (T9, tup5 (.str (Str.ofString "word") _) (.int 0 _) (.int 0 _) (.str x9 wt) (.int 0 _) 0) :: rest) (List.forall_mem_cons.mpr ⟨N3 _ (by k_mem), List.forall_mem_cons.mpr ⟨N3 _ (by k_mem), List.forall_mem_cons.mpr ⟨N3 _ (by k_mem), List.forall_mem_cons.mpr ⟨N3 _ (by k_mem), List.forall_mem_cons.mpr ⟨N3 _ (by k_mem), List.forall_mem_cons.mpr ⟨N3 _ (by k_mem), List.forall_mem_cons.mpr ⟨N3 _ (by k_mem), fun q hq => N3 q (by (repeat (refine List.Mem.tail _ ?_)); exact hq)⟩⟩⟩⟩⟩⟩⟩)
      ⟨_, _, _, _, pv ++ [Value.ref T9], (tup, tupOf [.int (pv.length : Nat) _, .ref a]) :: (a, exprO 367 d #[some (.str x9 wt), some idt, some (.str (Str.ofString "") tn)]) :: (d, dictOf [] 0) :: (T9, tup5 (.str (Str.ofString "word") _) (.int 0 _) (.int 0 _) (.str x9 wt) (.int 0 _) 0) :: rest, _, _, _, _, tup, pv.length, _, a, rfl, rfl, .head _, by omega, by omega, ?_, ?_, ?_,
        GRes.push (s1 := 0) (E1 := E) (T1 := T0) (X1 := X0) (D1 := D0) (T0 := T9) (D0 := d) (e := .word x9) hpv3 ⟨Nat.le_refl _, Nat.le_refl _⟩ (fun _ _ => ⟨rfl, rfl, rfl, rfl⟩) (fun _ _ => rfl) (fun k h1 h2 => absurd h1 (by omega)) hg (fun _ h => h) (lo := fun k => k) (fun k h1 h2 => absurd h1 (by omega)) (fun q hq => .tail _ (.tail _ (.tail _ (.tail _ hq))))
          ⟨_, _, _, _, _, _, .tail _ (.tail _ (.tail _ (.head _)))⟩ ⟨hx, wt, idt, Str.ofString "", tn, (show (Str.ofString "").length ≤ 1 from by decide +kernel), ?_⟩ (.tail _ (.tail _ (.head _))) l2 hr (fun _ h => nomatch h) trivial (by omega), fun h => absurd h (by decide)⟩
    · intro q hq
      rcases List.mem_cons.mp hq with rfl | hq
      · exact Nat.ne_of_gt o5
      rcases List.mem_cons.mp hq with rfl | hq
      · exact Nat.ne_of_gt (Nat.lt_trans (Nat.lt_trans m2 hd) l2)
      rcases List.mem_cons.mp hq with rfl | hq
      · exact Nat.ne_of_gt (Nat.lt_trans m2 hd)
      rcases List.mem_cons.mp hq with rfl | hq
      · exact Nat.ne_of_gt m2
      · exact b1 q hq
    · intro q hq
      rcases List.mem_cons.mp hq with rfl | hq
      · exact Nat.ne_of_gt o6
      rcases List.mem_cons.mp hq with rfl | hq
      · exact Nat.ne_of_gt (Nat.lt_trans (Nat.lt_trans m3 hd) l2)
      rcases List.mem_cons.mp hq with rfl | hq
      · exact Nat.ne_of_gt (Nat.lt_trans m3 hd)
      rcases List.mem_cons.mp hq with rfl | hq
      · exact Nat.ne_of_gt m3
      · exact b2 q hq
    · intro q hq
      rcases List.mem_cons.mp hq with rfl | hq
      · exact Nat.ne_of_gt o7
      rcases List.mem_cons.mp hq with rfl | hq
      · exact Nat.ne_of_gt (Nat.lt_trans (Nat.lt_trans m4 hd) l2)
      rcases List.mem_cons.mp hq with rfl | hq
      · exact Nat.ne_of_gt (Nat.lt_trans m4 hd)
      rcases List.mem_cons.mp hq with rfl | hq
      · exact Nat.ne_of_gt m4
      · exact b3 q hq
    · rw [show updF X0 pv.length a pv.length = a from if_pos rfl, show updF D0 pv.length d pv.length = d from if_pos rfl]
      exact .tail _ (.head _)
end VJ
end

section
open PySem PySem.W PyProof.Rows PySem.Calls PySem.Spec PyProof.V
namespace VJ
set_option maxRecDepth 100000
theorem fillG2 : K9 = K9 ∧ PySem.Challenge.rw_vj0024_01 = PySem.Challenge.rw_vj0024_01 := by
  k_fill
  exact ⟨rfl, rfl⟩
local macro_rules | `(tactic| k_mem) => `(tactic| (refine list_mem_of ?_; ktr_member))
local macro_rules | `(tactic| k_all) => `(tactic| assumption)
local macro_rules | `(tactic| k_room) => `(tactic| first | omega | (simp only [depth_under_make, depth_under_kw, depth_in1, depth_deeper]; omega))
local macro_rules | `(tactic| walk_at "subscriptTail") => `(tactic| (k_here; (with_reducible show wpAny _ _ (subscriptTail _ _ (Value.ref _) (Value.int _ _)) _ _ _); k_dflt (refine' item_text (ws := [(_, _), (_, _), (_, _), (_, _)]) ?k1 ?k2 ?k3 ?k4 ?k5 ?_; (case k1 => k_asm); (case k2 => k_mem); (case k3 => omega); (case k4 => (show _ < (4 : Int); omega)); (case k5 => omega); k_whole); intro wx' wt' wm'))
local macro_rules | `(tactic| walk_at "call builtin:len") => `(tactic| (k_here; (with_reducible show wpAny _ _ (call (Value.builtin "len") [Value.ref _]) _ _ _); k_dflt (refine' len_lst ?k1 ?k2 ?k3 ?_; (case k1 => k_asm); (case k2 => k_mem); (case k3 => (simp only [List.size_toArray, List.length_append, List.length_cons, List.length_nil]; omega)); k_whole)))
local macro_rules | `(tactic| walk_at "call builtin:list.append") => `(tactic| (k_here; (with_reducible show wpAny _ _ (call (Value.builtin _) [Value.ref _, _]) _ _ _); k_dflt (refine' append_lst ?k1 ?k2 ?k3 ?_ ?z; (case k1 => k_asm); (case k2 => k_asm); (case k3 => k_upd); (case z => (simp only [List.length_append, List.length_cons, List.length_nil]; omega)); k_whole); intro h' F' N'; (try k_sweep)))
local macro_rules | `(tactic| walk_at "call ref") => `(tactic| ((with_reducible show wpAny _ _ (call (Value.ref 567) _) _ _ _); k_dflt ((try dsimp only); first | (refine' next_use ?B ?F ?X ?N ?T ?hA ?hf ?hke ?hh ?hd ?hu ?U ?M ?hI ?h1 ?h2 ?h3 ?h4 ?hlen ?a1 ?_; (case B => k_asm); (case F => k_asm); (case X => k_asm); (case N => k_asm); (case T => k_asm); (case hA => exact rfl); (case hf => exact rfl); (case hke => exact rfl); (case hh => exact rfl); (case hd => (simp only [depth_in1, depth_deeper]; omega)); (case hu => (simp only [units_in1, units_deeper]; omega)); (case U => k_updF); (case M => k_mem); (case hI => assumption); (case h1 => decide); (case h2 => decide); (case h3 => omega); (case h4 => omega); (case hlen => assumption); (case a1 => k_ne); k_whole; intro v' tk' tk2' h' tk3' hv0' hv1' F' N'; (try dsimp only at N'); (try k_sweep)) | refine halt_of ?_)))

section
variable {prog : Program} {w : World} {A : Around} {E : Value → Shared → Prop} {s : Shared} {h₀ : Heap} {L : Addr} {news : List (Addr × Obj)} {n : Nat} {k : Int}
/-- an item of a list of ints at a bounded place: some int of the list -/
theorem item_ints {value slice : PySem.Expr} {l : Addr} {ws : List (Int × Tok)} {u : Tok} {Q : Value → Shared → Prop} (N : News h₀ L s.heap news) (hm : (l, listOf (ws.map fun p => Value.int p.1 p.2).toArray n) ∈ news)
    (h0 : 0 ≤ k) (h1 : k < ws.length) (hf : k < 2 ^ 63) (h : ∀ x t, x ∈ ws.map (·.1) → Q (.int x t) s)
    (hs : subscripted slice false (.ref l) (.int k u) = operate [.ref l, .int k u] (getItem (.ref l) (.int k u)) := by with_unfolding_all rfl) :
    wpAny (model prog w) A (subscriptTail value slice (.ref l) (.int k u)) Q E s := by
  have hl : s.heap.IsList l (ws.map fun p => Value.int p.1 p.2).toArray := PySem.IsL.isList (n := n) (N _ hm).1
  have hk : k.toNat < ws.length := by omega
  refine tail_any hl.typeIs slot_list_getitem.lookup (wpAny_getItem_list hl h0 hf ?_ (h ws[k.toNat].1 ws[k.toNat].2 (List.mem_map_of_mem (List.getElem_mem hk)))) hs
  simp [hk]
end
local macro_rules | `(tactic| walk_at "subscriptTail") => `(tactic| (k_here; (with_reducible show wpAny _ _ (subscriptTail _ _ (Value.ref _) (Value.int _ _)) _ _ _); k_dflt (refine' item_ints (ws := [(_, _), (_, _), (_, _)]) ?k1 ?k2 ?k3 ?k4 ?k5 ?_; (case k1 => k_asm); (case k2 => k_mem); (case k3 => omega); (case k4 => (show _ < (3 : Int); omega)); (case k5 => omega); k_whole); intro wx' wt' wm'))
local macro_rules | `(tactic| walk_at "call ref") => `(tactic| ((with_reducible show wpAny _ _ (call (Value.ref 574) _) _ _ _); k_dflt ((try dsimp only); refine halt_of ?_)))
local macro_rules | `(tactic| walk_at "call ref") => `(tactic| ((with_reducible show wpAny _ _ (call (Value.ref 451) _ _) _ _ _); k_dflt ((try dsimp only); refine halt_of ?_)))
local macro_rules | `(tactic| walk_at "call ref") => `(tactic| ((with_reducible show wpAny _ _ (call (Value.ref 425) _ _) _ _ _); k_dflt ((try dsimp only); refine halt_of ?_)))
local macro_rules | `(tactic| walk_at "call ref") => `(tactic| ((with_reducible show wpAny _ _ (call (Value.ref 489) _ _) _ _ _); k_dflt ((try dsimp only); refine halt_of ?_)))
local macro_rules | `(tactic| walk_at "call ref") => `(tactic| ((with_reducible show wpAny _ _ (call (Value.ref 528) _ _) _ _ _); k_dflt ((try dsimp only); refine halt_of ?_)))
local macro_rules | `(tactic| walk_at "call ref") => `(tactic| ((with_reducible show wpAny _ _ (call (Value.ref 556) _) _ _ _); k_dflt ((try dsimp only); refine halt_of ?_)))
local macro_rules | `(tactic| walk_at "call ref") => `(tactic| ((with_reducible show wpAny _ _ (call (Value.ref 367) _) _ _ _); k_dflt ((try dsimp only); refine halt_of ?_)))
set_option maxHeartbeats 4000000 in
theorem grown1 {prog : Program} {w : World} (pf : (prog.main.file == Str.ofString "/claim/cut.py") = true) (ps : (prog.main.scope.names.lookup (Str.ofString "super")).isSome = false) : GrownC prog w 1 5 3 120 1050 := by
  intro st sl pl i tkd tkn tki n n' np nm vs pv ns rest E T0 X0 D0 hI h3 h4' hlen a1 a2 a3 b1 b2 b3 hpv hpv3 hnm hg
  have h4 : i ≤ 800 + 100 := by omega
  refine told_def (by k_is) (by k_is) (by decide) (fun _ _ => BindsTo.of_eq rfl) (locs rfl) ?_
  intro dp un gd env outer base G p loose mean mg mb s L h₁ tk hdd hu F N hlt B X T
  (try dsimp only)
  k_fold
  have hrl : recursionLimit = 1000 := rfl
  have hcl : cLine = 9900 := rfl
  k_steps
  all_goals (try dsimp only)
  · unfold Halt
    rename News _ _ _ _ => N1
    rename Fr _ _ _ _ => F1
    rename_i v9 u1 u2 h8 u3 hv0 hv1 h9 z9
    obtain ⟨c, rfl, hc⟩ : ∃ c : Nat, v9 = c ∧ c < 3 := ⟨v9.toNat, by omega, by omega⟩
    refine lazy_K (x := nameOf c) (nameOf_len hc) F1 X N1 rfl (by simp only [depth_deeper]; omega) (by simp only [units_deeper]; omega) fun a d tk0 h2 tk2 F2 N2 hne => ?_
    clear F1 N1
    k_steps
    all_goals (try dsimp only)
    rename News _ _ _ _ => N3
    rename Fr _ _ _ _ => F3
    rename_i tup h10 l9
    obtain ⟨m1, m2, m3, m4, m5, m6⟩ := l9
    have e1 := hne _ (.head _)
    have e2 := hne _ (.tail _ (.head _))
    have e3 := hne _ (.tail _ (.tail _ (.head _)))
    refine back_of F3 (news' := (st, listOf #[.ref sl, .int (i + 1 + 1) _] n) :: (sl, listOf vs.toArray n') :: (pl, listOf pv.toArray np) :: (tup, tupOf [.int (c : Nat) _, .ref a]) :: (a, lazyObj d (nameOf c) tk0) :: (d, dictOf [] 0) :: rest) (List.forall_mem_cons.mpr ⟨N3 _ (by k_mem), List.forall_mem_cons.mpr ⟨N3 _ (by k_mem), List.forall_mem_cons.mpr ⟨N3 _ (by k_mem), List.forall_mem_cons.mpr ⟨N3 _ (by k_mem), List.forall_mem_cons.mpr ⟨N3 _ (by k_mem), List.forall_mem_cons.mpr ⟨N3 _ (by k_mem), fun q hq => N3 q (by (repeat (refine List.Mem.tail _ ?_)); exact hq)⟩⟩⟩⟩⟩⟩)
      ⟨_, _, _, _, pv, (tup, tupOf [.int (c : Nat) _, .ref a]) :: (a, lazyObj d (nameOf c) tk0) :: (d, dictOf [] 0) :: rest, E, T0, X0, D0, tup, c, _, a, rfl, rfl, .head _, by omega, by omega, ?_, ?_, ?_,
        ⟨⟨by omega, Nat.le_refl _⟩, fun _ _ => ⟨rfl, rfl, rfl, rfl⟩, fun _ _ => rfl, fun k h1 h2 => absurd h1 (by omega), hg.sup fun q hq => .tail _ (.tail _ (.tail _ hq)), fun q hq => .tail _ (.tail _ (.tail _ hq)), ⟨fun k => k, fun k h1 h2 => absurd h1 (by omega)⟩, .inl ⟨hc, d, tk0, .tail _ (.head _), .tail _ (.tail _ (.head _))⟩⟩, fun h => absurd h (by decide)⟩
    · intro q hq
      rcases List.mem_cons.mp hq with rfl | hq
      · exact Nat.ne_of_gt m3
      rcases List.mem_cons.mp hq with rfl | hq
      · exact Ne.symm e1.1
      rcases List.mem_cons.mp hq with rfl | hq
      · exact Ne.symm e1.2
      · exact b1 q hq
    · intro q hq
      rcases List.mem_cons.mp hq with rfl | hq
      · exact Nat.ne_of_gt m4
      rcases List.mem_cons.mp hq with rfl | hq
      · exact Ne.symm e2.1
      rcases List.mem_cons.mp hq with rfl | hq
      · exact Ne.symm e2.2
      · exact b2 q hq
    · intro q hq
      rcases List.mem_cons.mp hq with rfl | hq
      · exact Nat.ne_of_gt m5
      rcases List.mem_cons.mp hq with rfl | hq
      · exact Ne.symm e3.1
      rcases List.mem_cons.mp hq with rfl | hq
      · exact Ne.symm e3.2
      · exact b3 q hq
  · unfold Halt
    rename News _ _ _ _ => N1
    rename Fr _ _ _ _ => F1
    rename_i v9 u1 u2 g4 u3 hv0 hv1 x9 wt wm g3 u4 T9 g2 l9 g1
    have hx : x9.length ≤ 2 := by
      simp only [List.map_cons, List.map_nil, List.mem_cons, List.not_mem_nil, or_false] at wm
      rcases wm with rfl | rfl | rfl | rfl <;> decide +kernel
    obtain ⟨m1, m2, m3, m4, m5⟩ := l9
    refine lit_K pf ps (by omega) (by omega) F1 N1 B X T fun a d idt tn h2 tk2 F2 N2 l1 l2 => ?_
    clear F1 N1
    k_steps
    all_goals (try dsimp only)
    rename News _ _ _ _ => N3
    rename Fr _ _ _ _ => F3
    rename_i tup h10 l10
    obtain ⟨o1, o2, o3, o4, o5, o6, o7, o8⟩ := l10
    have e : ((((pv ++ [Value.ref T9]).toArray.size : Nat) : Int) - 1) = (pv.length : Nat) := by simp
    rw [e] at N3
    have hd : @LT.lt Nat _ T9 d := l1 _ (.head _)
    have hr : ∀ q ∈ rest, @LT.lt Nat _ q.1 d := fun q hq => Nat.lt_trans (tb_ltOf m5 q hq) hd
    refine back_of F3 (news' := (st, listOf #[.ref sl, .int (i + 1 + 1) _] n) :: (sl, listOf vs.toArray n') :: (pl, listOf (pv ++ [Value.ref T9]).toArray _) :: (tup, tupOf [.int (pv.length : Nat) _, .ref a]) :: (a, exprO 367 d #[some (.str x9 wt), some idt, some (.str (Str.ofString "") tn)]) :: (d, dictOf [] 0) :: (T9, tup5 (.str (Str.ofString "word") _) (.int 0 _) (.int 0 _) (.str x9 wt) (.int 0 _) 0) :: rest) (List.forall_mem_cons.mpr ⟨N3 _ (by k_mem), List.forall_mem_cons.mpr ⟨N3 _ (by k_mem), List.forall_mem_cons.mpr ⟨N3 _ (by k_mem), List.forall_mem_cons.mpr ⟨N3 _ (by k_mem), List.forall_mem_cons.mpr ⟨N3 _ (by k_mem), List.forall_mem_cons.mpr ⟨N3 _ (by k_mem), List.forall_mem_cons.mpr ⟨N3 _ (by k_mem), fun q hq => N3 q (by (repeat (refine List.Mem.tail _ ?_)); exact hq)⟩⟩⟩⟩⟩⟩⟩)
      ⟨_, _, _, _, pv ++ [Value.ref T9], (tup, tupOf [.int (pv.length : Nat) _, .ref a]) :: (a, exprO 367 d #[some (.str x9 wt), some idt, some (.str (Str.ofString "") tn)]) :: (d, dictOf [] 0) :: (T9, tup5 (.str (Str.ofString "word") _) (.int 0 _) (.int 0 _) (.str x9 wt) (.int 0 _) 0) :: rest, _, _, _, _, tup, pv.length, _, a, rfl, rfl, .head _, by omega, by omega, ?_, ?_, ?_,
        GRes.push (s1 := 0) (E1 := E) (T1 := T0) (X1 := X0) (D1 := D0) (T0 := T9) (D0 := d) (e := .word x9) hpv3 ⟨Nat.le_refl _, Nat.le_refl _⟩ (fun _ _ => ⟨rfl, rfl, rfl, rfl⟩) (fun _ _ => rfl) (fun k h1 h2 => absurd h1 (by omega)) hg (fun _ h => h) (lo := fun k => k) (fun k h1 h2 => absurd h1 (by omega)) (fun q hq => .tail _ (.tail _ (.tail _ (.tail _ hq))))
          ⟨_, _, _, _, _, _, .tail _ (.tail _ (.tail _ (.head _)))⟩ ⟨hx, wt, idt, Str.ofString "", tn, (show (Str.ofString "").length ≤ 1 from by decide +kernel), ?_⟩ (.tail _ (.tail _ (.head _))) l2 hr (fun _ h => nomatch h) trivial (by omega), fun h => absurd h (by decide)⟩
    · intro q hq
      rcases List.mem_cons.mp hq with rfl | hq
      · exact Nat.ne_of_gt o5
      rcases List.mem_cons.mp hq with rfl | hq
      · exact Nat.ne_of_gt (Nat.lt_trans (Nat.lt_trans m2 hd) l2)
      rcases List.mem_cons.mp hq with rfl | hq
      · exact Nat.ne_of_gt (Nat.lt_trans m2 hd)
      rcases List.mem_cons.mp hq with rfl | hq
      · exact Nat.ne_of_gt m2
      · exact b1 q hq
    · intro q hq
      rcases List.mem_cons.mp hq with rfl | hq
      · exact Nat.ne_of_gt o6
      rcases List.mem_cons.mp hq with rfl | hq
      · exact Nat.ne_of_gt (Nat.lt_trans (Nat.lt_trans m3 hd) l2)
      rcases List.mem_cons.mp hq with rfl | hq
      · exact Nat.ne_of_gt (Nat.lt_trans m3 hd)
      rcases List.mem_cons.mp hq with rfl | hq
      · exact Nat.ne_of_gt m3
      · exact b2 q hq
    · intro q hq
      rcases List.mem_cons.mp hq with rfl | hq
      · exact Nat.ne_of_gt o7
      rcases List.mem_cons.mp hq with rfl | hq
      · exact Nat.ne_of_gt (Nat.lt_trans (Nat.lt_trans m4 hd) l2)
      rcases List.mem_cons.mp hq with rfl | hq
      · exact Nat.ne_of_gt (Nat.lt_trans m4 hd)
      rcases List.mem_cons.mp hq with rfl | hq
      · exact Nat.ne_of_gt m4
      · exact b3 q hq
    · rw [show updF X0 pv.length a pv.length = a from if_pos rfl, show updF D0 pv.length d pv.length = d from if_pos rfl]
      exact .tail _ (.head _)
  · unfold Halt
    rename News _ _ _ _ => N1
    rename Fr _ _ _ _ => F1
    rename_i v9 u1 u2 h8 u3 hv0 hv1 h9 hp1 hp2
    refine told_use (xs := []) (grown0 pf ps st sl pl (i + 1) _ _ _ n n' np _ vs pv ns rest E T0 X0 D0 hI (by omega) (by omega) hlen a1 a2 a3 b1 b2 b3 (by omega) hpv3 (show (Str.ofString "").length ≤ 1 from by decide +kernel) hg) B F1 X N1 T rfl rfl rfl rfl (by simp only [depth_deeper]; omega) (by simp only [units_deeper]; omega) (fun _ h => nomatch h) ?_ (fun _ _ _ _ _ _ _ _ _ _ h => h.elim)
    rintro r news2 h2 tk2 F2 N2 - ⟨i2, ti2, n2, np2, pv2, rest2, E2, T2, X2, D2, tup, key, tkk, y, rfl, rfl, hmt, hi1, hi2, c1, c2, c3, g, -⟩
    simp only [List.nil_append] at N2
    clear F1 N1
    obtain ⟨hg1, hg2⟩ := g.len
    k_steps
    all_goals (try dsimp only)
    · unfold Halt
      rename News _ _ _ _ => N4
      rename Fr _ _ _ _ => F4
      rename_i hp4 k3 least u1 u2 h15 u3 hl0 hl1 h16 k5 l9 h17 q9 v8 u4 u5 h18 u6 hv2 hv3 mx wt wm h19 k6 T9 h20 q10 h21 k7 hmx
      simp only [List.map_cons, List.map_nil, List.mem_cons, List.not_mem_nil, or_false] at wm
      obtain ⟨z0, z1, z2, z3, z4⟩ := q10
      refine many_K pf ps (by omega) (by omega) F4 N4 B X T fun a d M idt tn tf h5 tk5 F5 N5 l1 l2 l3 => ?_
      have hTd : @LT.lt Nat _ T9 d := l1 (T9, _) (by k_mem)
      have hrd : ∀ q ∈ rest2, @LT.lt Nat _ q.1 d := fun q hq => l1 q (by (repeat (refine List.Mem.tail _ ?_)); exact hq)
      clear F4 N4 l1
      k_steps
      all_goals (try dsimp only)
      rename News _ _ _ _ => N6
      rename Fr _ _ _ _ => F6
      rename_i tup2 h22 q11
      have e : ((((pv2 ++ [Value.ref T9]).toArray.size : Nat) : Int) - 1) = (pv2.length : Nat) := by simp
      rw [e] at N6
      refine grown_end (os := [(a, exprO 528 d #[some (.float 9218868437227405312 tf), some (.int least u1), some (.ref M), some idt, some (.str (Str.ofString "") tn)]), (d, dictOf [] 0), (M, tupOf [.ref y]), (T9, tup5 (.str (Str.ofString "many") _) (.int key _) (.int 0 _) (.int least _) (.int mx _) 0)]) F6 N6 (by k_mem) (by k_mem) (by k_mem) (by k_mem) (List.forall_mem_cons.mpr ⟨by k_mem, List.forall_mem_cons.mpr ⟨by k_mem, List.forall_mem_cons.mpr ⟨by k_mem, List.forall_mem_cons.mpr ⟨by k_mem, List.forall_mem_nil _⟩⟩⟩⟩) (fun q hq => by (repeat (refine List.Mem.tail _ ?_)); exact hq) z1 z2 z3 (by omega) (List.forall_mem_cons.mpr ⟨by (dsimp only; omega), List.forall_mem_cons.mpr ⟨by (dsimp only; omega), List.forall_mem_cons.mpr ⟨by (dsimp only; omega), List.forall_mem_cons.mpr ⟨by (dsimp only; omega), List.forall_mem_nil _⟩⟩⟩⟩) c1 c2 c3 (by omega) (by omega)
        (GRes.push1 (e := .many key least mx) g hpv3 (fun q hq => .tail _ (List.mem_append_right _ hq)) ⟨_, _, _, _, _, _, .tail _ (.tail _ (.tail _ (.tail _ (.head _))))⟩
          (raw_many (by omega) (nm := Str.ofString "") (show (Str.ofString "").length ≤ 1 from by decide +kernel) (.tail _ (.head _)) (.tail _ (.tail _ (.tail _ (.head _)))) (.inl ⟨by omega, tf, rfl⟩) (g.ref hpv3 (fun q hq => .tail _ (List.mem_append_right _ hq)) (Nat.le_refl _) upd_ne)) (.tail _ (.tail _ (.head _))) l2 hrd (.inl ⟨_, _, rfl⟩) (by omega)) (fun _ => by omega)
    · unfold Halt
      rename News _ _ _ _ => N4
      rename Fr _ _ _ _ => F4
      rename_i hp4 k3 least u1 u2 h15 u3 hl0 hl1 h16 k5 l9 h17 q9 v8 u4 u5 h18 u6 hv2 hv3 mx wt wm h19 k6 T9 h20 q10 h21 k7 hmx
      simp only [List.map_cons, List.map_nil, List.mem_cons, List.not_mem_nil, or_false] at wm
      obtain ⟨z0, z1, z2, z3, z4⟩ := q10
      refine manyM_K pf ps (by omega) (by omega) F4 N4 B X T fun a d M idt tn h5 tk5 F5 N5 l1 l2 l3 => ?_
      have hTd : @LT.lt Nat _ T9 d := l1 (T9, _) (by k_mem)
      have hrd : ∀ q ∈ rest2, @LT.lt Nat _ q.1 d := fun q hq => l1 q (by (repeat (refine List.Mem.tail _ ?_)); exact hq)
      clear F4 N4 l1
      k_steps
      all_goals (try dsimp only)
      rename News _ _ _ _ => N6
      rename Fr _ _ _ _ => F6
      rename_i tup2 h22 q11
      have e : ((((pv2 ++ [Value.ref T9]).toArray.size : Nat) : Int) - 1) = (pv2.length : Nat) := by simp
      rw [e] at N6
      refine grown_end (os := [(a, exprO 528 d #[some (.int mx wt), some (.int least u1), some (.ref M), some idt, some (.str (Str.ofString "") tn)]), (d, dictOf [] 0), (M, tupOf [.ref y]), (T9, tup5 (.str (Str.ofString "many") _) (.int key _) (.int 0 _) (.int least _) (.int mx _) 0)]) F6 N6 (by k_mem) (by k_mem) (by k_mem) (by k_mem) (List.forall_mem_cons.mpr ⟨by k_mem, List.forall_mem_cons.mpr ⟨by k_mem, List.forall_mem_cons.mpr ⟨by k_mem, List.forall_mem_cons.mpr ⟨by k_mem, List.forall_mem_nil _⟩⟩⟩⟩) (fun q hq => by (repeat (refine List.Mem.tail _ ?_)); exact hq) z1 z2 z3 (by omega) (List.forall_mem_cons.mpr ⟨by (dsimp only; omega), List.forall_mem_cons.mpr ⟨by (dsimp only; omega), List.forall_mem_cons.mpr ⟨by (dsimp only; omega), List.forall_mem_cons.mpr ⟨by (dsimp only; omega), List.forall_mem_nil _⟩⟩⟩⟩) c1 c2 c3 (by omega) (by omega)
        (GRes.push1 (e := .many key least mx) g hpv3 (fun q hq => .tail _ (List.mem_append_right _ hq)) ⟨_, _, _, _, _, _, .tail _ (.tail _ (.tail _ (.tail _ (.head _))))⟩
          (raw_many (by omega) (nm := Str.ofString "") (show (Str.ofString "").length ≤ 1 from by decide +kernel) (.tail _ (.head _)) (.tail _ (.tail _ (.tail _ (.head _)))) (.inr ⟨by omega, wt, rfl⟩) (g.ref hpv3 (fun q hq => .tail _ (List.mem_append_right _ hq)) (Nat.le_refl _) upd_ne)) (.tail _ (.tail _ (.head _))) l2 hrd (.inl ⟨_, _, rfl⟩) (by omega)) (fun _ => by omega)
    · unfold Halt
      rename News _ _ _ _ => N4
      rename Fr _ _ _ _ => F4
      rename_i hp4 k3 hp5 k4 v8 u4 u5 h18 u6 hv2 hv3 h19 k6 T9 h20 q10 h21
      obtain ⟨z1, z2, z3, z4⟩ := q10
      refine look_K pf ps (by omega) (by omega) F4 N4 B X T fun a d M idt tn h5 tk5 F5 N5 l1 l2 l3 => ?_
      have hTd : @LT.lt Nat _ T9 d := l1 (T9, _) (by k_mem)
      have hrd : ∀ q ∈ rest2, @LT.lt Nat _ q.1 d := fun q hq => l1 q (by (repeat (refine List.Mem.tail _ ?_)); exact hq)
      clear F4 N4 l1
      k_steps
      all_goals (try dsimp only)
      rename News _ _ _ _ => N6
      rename Fr _ _ _ _ => F6
      rename_i tup2 h22 q11
      have e : ((((pv2 ++ [Value.ref T9]).toArray.size : Nat) : Int) - 1) = (pv2.length : Nat) := by simp
      rw [e] at N6
      refine grown_end (os := [(a, exprO 489 d #[some (.bool (v8 == 1)), some (.ref M), some idt, some (.str (Str.ofString "") tn)]), (d, dictOf [] 0), (M, tupOf [.ref y]), (T9, tup5 (.str (Str.ofString "look") _) (.int key _) (.int 0 _) (.bool (v8 == 1)) (.int 0 _) 0)]) F6 N6 (by k_mem) (by k_mem) (by k_mem) (by k_mem) (List.forall_mem_cons.mpr ⟨by k_mem, List.forall_mem_cons.mpr ⟨by k_mem, List.forall_mem_cons.mpr ⟨by k_mem, List.forall_mem_cons.mpr ⟨by k_mem, List.forall_mem_nil _⟩⟩⟩⟩) (fun q hq => by (repeat (refine List.Mem.tail _ ?_)); exact hq) z1 z2 z3 (by omega) (List.forall_mem_cons.mpr ⟨by (dsimp only; omega), List.forall_mem_cons.mpr ⟨by (dsimp only; omega), List.forall_mem_cons.mpr ⟨by (dsimp only; omega), List.forall_mem_cons.mpr ⟨by (dsimp only; omega), List.forall_mem_nil _⟩⟩⟩⟩) c1 c2 c3 (by omega) (by omega)
        (GRes.push1 (e := .look key (v8 == 1)) g hpv3 (fun q hq => .tail _ (List.mem_append_right _ hq)) ⟨_, _, _, _, _, .tail _ (.tail _ (.tail _ (.tail _ (.head _))))⟩
          (raw_look (nm := Str.ofString "") (show (Str.ofString "").length ≤ 1 from by decide +kernel) (.tail _ (.head _)) (.tail _ (.tail _ (.tail _ (.head _)))) (g.ref hpv3 (fun q hq => .tail _ (List.mem_append_right _ hq)) (Nat.le_refl _) upd_ne)) (.tail _ (.tail _ (.head _))) l2 hrd (.inr ⟨_, rfl⟩) (by omega)) (fun _ => by omega)
    · unfold Halt
      rename News _ _ _ _ => N4
      rename Fr _ _ _ _ => F4
      refine told_use (xs := []) (grown0 pf ps st sl pl i2 _ _ _ n2 n' np2 _ vs pv2 ns rest2 E2 T2 X2 D2 hI (by omega) (by omega) hlen a1 a2 a3 c1 c2 c3 (by omega) (by omega) (show (Str.ofString "").length ≤ 1 from by decide +kernel) g.obj) B F4 X N4 T rfl rfl rfl rfl (by simp only [depth_deeper]; omega) (by simp only [units_deeper]; omega) (fun _ h => nomatch h) ?_ (fun _ _ _ _ _ _ _ _ _ _ h => h.elim)
      rintro r news3 h3 tk3 F5 N5 - ⟨i3, ti3, n3, np3, pv3, rest3, E3, T3, X3, D3, tup3, key3, tkk3, y3, rfl, rfl, hmt3, hi3, hi4, d1, d2, d3, g3, -⟩
      simp only [List.nil_append] at N5
      clear F4 N4
      obtain ⟨hg3, hg4⟩ := g3.len
      k_steps
      all_goals (try dsimp only)
      · unfold Halt
        rename News _ _ _ _ => N6
        rename Fr _ _ _ _ => F6
        rename_i hp6 k6 T9 h20 q10 h21
        obtain ⟨z1, z2, z3, z4⟩ := q10
        refine one_K pf ps (by omega) (by omega) F6 N6 B X T fun a d M idt tn h5 tk5 F7 N7 l1 l2 l3 => ?_
        have hTd : @LT.lt Nat _ T9 d := l1 (T9, _) (by k_mem)
        have hrd : ∀ q ∈ rest3, @LT.lt Nat _ q.1 d := fun q hq => l1 q (by (repeat (refine List.Mem.tail _ ?_)); exact hq)
        clear F6 N6 l1
        k_steps
        all_goals (try dsimp only)
        rename News _ _ _ _ => N8
        rename Fr _ _ _ _ => F8
        rename_i tup2 h22 q11
        have e : ((((pv3 ++ [Value.ref T9]).toArray.size : Nat) : Int) - 1) = (pv3.length : Nat) := by simp
        rw [e] at N8
        refine grown_end (os := [(a, exprO 451 d #[some (.ref M), some idt, some (.str nm tn)]), (d, dictOf [] 0), (M, tupOf [.ref y, .ref y3]), (T9, tup5 (.str (Str.ofString "choice") _) (.int key _) (.int key3 _) (.int 0 _) (.int 0 _) 0)]) F8 N8 (by k_mem) (by k_mem) (by k_mem) (by k_mem) (List.forall_mem_cons.mpr ⟨by k_mem, List.forall_mem_cons.mpr ⟨by k_mem, List.forall_mem_cons.mpr ⟨by k_mem, List.forall_mem_cons.mpr ⟨by k_mem, List.forall_mem_nil _⟩⟩⟩⟩) (fun q hq => by (repeat (refine List.Mem.tail _ ?_)); exact hq) z1 z2 z3 (by omega) (List.forall_mem_cons.mpr ⟨by (dsimp only; omega), List.forall_mem_cons.mpr ⟨by (dsimp only; omega), List.forall_mem_cons.mpr ⟨by (dsimp only; omega), List.forall_mem_cons.mpr ⟨by (dsimp only; omega), List.forall_mem_nil _⟩⟩⟩⟩) d1 d2 d3 (by omega) (by omega)
          (GRes.push2 (e := .choice key key3) g g3 hpv3 (fun q hq => .tail _ (List.mem_append_right _ hq)) ⟨_, _, _, _, _, _, .tail _ (.tail _ (.tail _ (.tail _ (.head _))))⟩
            (raw_choice hnm (.tail _ (.head _)) (.tail _ (.tail _ (.tail _ (.head _)))) (g.ref hpv3 (fun q hq => .tail _ (List.mem_append_right _ (g3.sub _ hq))) hg4 fun j hj => (upd_ne j (by omega)).trans (g3.old j hj).2.2.1) (g3.ref (by omega) (fun q hq => .tail _ (List.mem_append_right _ hq)) (Nat.le_refl _) upd_ne)) (.tail _ (.tail _ (.head _))) l2 hrd
            (.inl rfl) (by omega)) (fun _ => by omega)
      · unfold Halt
        rename News _ _ _ _ => N6
        rename Fr _ _ _ _ => F6
        rename_i hp6 k6 T9 h20 q10 h21
        obtain ⟨z1, z2, z3, z4⟩ := q10
        refine seq_K pf ps (by omega) (by omega) F6 N6 B X T fun a d M idt tn h5 tk5 F7 N7 l1 l2 l3 => ?_
        have hTd : @LT.lt Nat _ T9 d := l1 (T9, _) (by k_mem)
        have hrd : ∀ q ∈ rest3, @LT.lt Nat _ q.1 d := fun q hq => l1 q (by (repeat (refine List.Mem.tail _ ?_)); exact hq)
        clear F6 N6 l1
        k_steps
        all_goals (try dsimp only)
        rename News _ _ _ _ => N8
        rename Fr _ _ _ _ => F8
        rename_i tup2 h22 q11
        have e : ((((pv3 ++ [Value.ref T9]).toArray.size : Nat) : Int) - 1) = (pv3.length : Nat) := by simp
        rw [e] at N8
        refine grown_end (os := [(a, exprO 425 d #[some (.ref M), some idt, some (.str nm tn)]), (d, dictOf [] 0), (M, tupOf [.ref y, .ref y3]), (T9, tup5 (.str (Str.ofString "chain") _) (.int key _) (.int key3 _) (.int 0 _) (.int 0 _) 0)]) F8 N8 (by k_mem) (by k_mem) (by k_mem) (by k_mem) (List.forall_mem_cons.mpr ⟨by k_mem, List.forall_mem_cons.mpr ⟨by k_mem, List.forall_mem_cons.mpr ⟨by k_mem, List.forall_mem_cons.mpr ⟨by k_mem, List.forall_mem_nil _⟩⟩⟩⟩) (fun q hq => by (repeat (refine List.Mem.tail _ ?_)); exact hq) z1 z2 z3 (by omega) (List.forall_mem_cons.mpr ⟨by (dsimp only; omega), List.forall_mem_cons.mpr ⟨by (dsimp only; omega), List.forall_mem_cons.mpr ⟨by (dsimp only; omega), List.forall_mem_cons.mpr ⟨by (dsimp only; omega), List.forall_mem_nil _⟩⟩⟩⟩) d1 d2 d3 (by omega) (by omega)
          (GRes.push2 (e := .chain key key3) g g3 hpv3 (fun q hq => .tail _ (List.mem_append_right _ hq)) ⟨_, _, _, _, _, _, .tail _ (.tail _ (.tail _ (.tail _ (.head _))))⟩
            (raw_chain hnm (.tail _ (.head _)) (.tail _ (.tail _ (.tail _ (.head _)))) (g.ref hpv3 (fun q hq => .tail _ (List.mem_append_right _ (g3.sub _ hq))) hg4 fun j hj => (upd_ne j (by omega)).trans (g3.old j hj).2.2.1) (g3.ref (by omega) (fun q hq => .tail _ (List.mem_append_right _ hq)) (Nat.le_refl _) upd_ne)) (.tail _ (.tail _ (.head _))) l2 hrd
            (.inr rfl) (by omega)) (fun _ => by omega)
end VJ
end

section
open PySem PySem.W PyProof.Rows PySem.Calls PySem.Spec PyProof.V
namespace VJ
set_option maxRecDepth 100000
theorem fillG3 : K9 = K9 ∧ PySem.Challenge.rw_vj0024_01 = PySem.Challenge.rw_vj0024_01 := by
  k_fill
  exact ⟨rfl, rfl⟩
local macro_rules | `(tactic| k_mem) => `(tactic| (refine list_mem_of ?_; ktr_member))
local macro_rules | `(tactic| k_all) => `(tactic| assumption)
local macro_rules | `(tactic| k_room) => `(tactic| first | omega | (simp only [depth_under_make, depth_under_kw, depth_in1, depth_deeper]; omega))
local macro_rules | `(tactic| walk_at "pad 1") => `(tactic| fail)
local macro_rules | `(tactic| walk_at "subscriptTail") => `(tactic| (k_here; (with_reducible show wpAny _ _ (subscriptTail _ _ (Value.ref _) (Value.int _ _)) _ _ _); k_dflt (refine' item_text (ws := [(_, _), (_, _), (_, _), (_, _)]) ?k1 ?k2 ?k3 ?k4 ?k5 ?_; (case k1 => k_asm); (case k2 => k_mem); (case k3 => omega); (case k4 => (show _ < (4 : Int); omega)); (case k5 => omega); k_whole); intro wx' wt' wm'))
local macro_rules | `(tactic| walk_at "call builtin:len") => `(tactic| (k_here; (with_reducible show wpAny _ _ (call (Value.builtin "len") [Value.ref _]) _ _ _); k_dflt (refine' len_lst ?k1 ?k2 ?k3 ?_; (case k1 => k_asm); (case k2 => k_mem); (case k3 => (simp only [List.size_toArray, List.length_append, List.length_cons, List.length_nil]; omega)); k_whole)))
local macro_rules | `(tactic| walk_at "call builtin:list.append") => `(tactic| (k_here; (with_reducible show wpAny _ _ (call (Value.builtin _) [Value.ref _, _]) _ _ _); k_dflt (refine' append_lst ?k1 ?k2 ?k3 ?_ ?z; (case k1 => k_asm); (case k2 => k_asm); (case k3 => k_upd); (case z => (simp only [List.length_append, List.length_cons, List.length_nil]; omega)); k_whole); intro h' F' N'; (try k_sweep)))
local macro_rules | `(tactic| walk_at "call ref") => `(tactic| ((with_reducible show wpAny _ _ (call (Value.ref 567) _) _ _ _); k_dflt ((try dsimp only); first | (refine' next_use ?B ?F ?X ?N ?T ?hA ?hf ?hke ?hh ?hd ?hu ?U ?M ?hI ?h1 ?h2 ?h3 ?h4 ?hlen ?a1 ?_; (case B => k_asm); (case F => k_asm); (case X => k_asm); (case N => k_asm); (case T => k_asm); (case hA => exact rfl); (case hf => exact rfl); (case hke => exact rfl); (case hh => exact rfl); (case hd => (simp only [depth_in1, depth_deeper]; omega)); (case hu => (simp only [units_in1, units_deeper]; omega)); (case U => k_updF); (case M => k_mem); (case hI => assumption); (case h1 => decide); (case h2 => decide); (case h3 => omega); (case h4 => omega); (case hlen => assumption); (case a1 => k_ne); k_whole; intro v' tk' tk2' h' tk3' hv0' hv1' F' N'; (try dsimp only at N'); (try k_sweep)) | refine halt_of ?_)))

local macro_rules | `(tactic| walk_at "subscriptTail") => `(tactic| (k_here; (with_reducible show wpAny _ _ (subscriptTail _ _ (Value.ref _) (Value.int _ _)) _ _ _); k_dflt (refine' item_ints (ws := [(_, _), (_, _), (_, _)]) ?k1 ?k2 ?k3 ?k4 ?k5 ?_; (case k1 => k_asm); (case k2 => k_mem); (case k3 => omega); (case k4 => (show _ < (3 : Int); omega)); (case k5 => omega); k_whole); intro wx' wt' wm'))
local macro_rules | `(tactic| walk_at "call ref") => `(tactic| ((with_reducible show wpAny _ _ (call (Value.ref 574) _) _ _ _); k_dflt ((try dsimp only); refine halt_of ?_)))
local macro_rules | `(tactic| walk_at "call ref") => `(tactic| ((with_reducible show wpAny _ _ (call (Value.ref 451) _ _) _ _ _); k_dflt ((try dsimp only); refine halt_of ?_)))
local macro_rules | `(tactic| walk_at "call ref") => `(tactic| ((with_reducible show wpAny _ _ (call (Value.ref 425) _ _) _ _ _); k_dflt ((try dsimp only); refine halt_of ?_)))
local macro_rules | `(tactic| walk_at "call ref") => `(tactic| ((with_reducible show wpAny _ _ (call (Value.ref 489) _ _) _ _ _); k_dflt ((try dsimp only); refine halt_of ?_)))
local macro_rules | `(tactic| walk_at "call ref") => `(tactic| ((with_reducible show wpAny _ _ (call (Value.ref 528) _ _) _ _ _); k_dflt ((try dsimp only); refine halt_of ?_)))
local macro_rules | `(tactic| walk_at "call ref") => `(tactic| ((with_reducible show wpAny _ _ (call (Value.ref 556) _) _ _ _); k_dflt ((try dsimp only); refine halt_of ?_)))
local macro_rules | `(tactic| walk_at "call ref") => `(tactic| ((with_reducible show wpAny _ _ (call (Value.ref 367) _) _ _ _); k_dflt ((try dsimp only); refine halt_of ?_)))
set_option maxHeartbeats 4000000 in
theorem grown2 {prog : Program} {w : World} (pf : (prog.main.file == Str.ofString "/claim/cut.py") = true) (ps : (prog.main.scope.names.lookup (Str.ofString "super")).isSome = false) : GrownC prog w 2 11 7 130 1100 := by
  intro st sl pl i tkd tkn tki n n' np nm vs pv ns rest E T0 X0 D0 hI h3 h4' hlen a1 a2 a3 b1 b2 b3 hpv hpv3 hnm hg
  have h4 : i ≤ 800 + 100 := by omega
  refine told_def (by k_is) (by k_is) (by decide) (fun _ _ => BindsTo.of_eq rfl) (locs rfl) ?_
  intro dp un gd env outer base G p loose mean mg mb s L h₁ tk hdd hu F N hlt B X T
  (try dsimp only)
  k_fold
  have hrl : recursionLimit = 1000 := rfl
  have hcl : cLine = 9900 := rfl
  k_steps
  all_goals (try dsimp only)
  unfold Halt
  rename News _ _ _ _ => N1
  rename Fr _ _ _ _ => F1
  refine told_use (xs := []) (grown1 pf ps st sl pl (i + 1) _ _ _ n n' np _ vs pv ns rest E T0 X0 D0 hI (by omega) (by omega) hlen a1 a2 a3 b1 b2 b3 (by omega) hpv3 (show (Str.ofString "").length ≤ 1 from by decide +kernel) hg) B F1 X N1 T rfl rfl rfl rfl (by simp only [depth_deeper]; omega) (by simp only [units_deeper]; omega) (fun _ h => nomatch h) ?_ (fun _ _ _ _ _ _ _ _ _ _ h => h.elim)
  rintro r news2 h2 tk2 F2 N2 - ⟨i2, ti2, n2, np2, pv2, rest2, E2, T2, X2, D2, tup, key, tkk, y, rfl, rfl, hmt, hi1, hi2, c1, c2, c3, g, -⟩
  simp only [List.nil_append] at N2
  clear F1 N1
  obtain ⟨hg1, hg2⟩ := g.len
  k_steps
  all_goals (try dsimp only)
  unfold Halt
  rename News _ _ _ _ => N4
  rename Fr _ _ _ _ => F4
  refine told_use (xs := []) (grown1 pf ps st sl pl i2 _ _ _ n2 n' np2 _ vs pv2 ns rest2 E2 T2 X2 D2 hI (by omega) (by omega) hlen a1 a2 a3 c1 c2 c3 (by omega) (by omega) (show (Str.ofString "").length ≤ 1 from by decide +kernel) g.obj) B F4 X N4 T rfl rfl rfl rfl (by simp only [depth_deeper]; omega) (by simp only [units_deeper]; omega) (fun _ h => nomatch h) ?_ (fun _ _ _ _ _ _ _ _ _ _ h => h.elim)
  rintro r news3 h3 tk3 F5 N5 - ⟨i3, ti3, n3, np3, pv3, rest3, E3, T3, X3, D3, tup3, key3, tkk3, y3, rfl, rfl, hmt3, hi3, hi4, d1, d2, d3, g3, -⟩
  simp only [List.nil_append] at N5
  clear F4 N4
  obtain ⟨hg3, hg4⟩ := g3.len
  k_steps
  all_goals (try dsimp only)
  · unfold Halt
    rename News _ _ _ _ => N6
    rename Fr _ _ _ _ => F6
    rename_i hp6 k6 T9 h20 q10 h21
    obtain ⟨z1, z2, z3, z4⟩ := q10
    refine one_K pf ps (by omega) (by omega) F6 N6 B X T fun a d M idt tn h5 tk5 F7 N7 l1 l2 l3 => ?_
    have hTd : @LT.lt Nat _ T9 d := l1 (T9, _) (by k_mem)
    have hrd : ∀ q ∈ rest3, @LT.lt Nat _ q.1 d := fun q hq => l1 q (by (repeat (refine List.Mem.tail _ ?_)); exact hq)
    clear F6 N6 l1
    k_steps
    all_goals (try dsimp only)
    rename News _ _ _ _ => N8
    rename Fr _ _ _ _ => F8
    rename_i tup2 h22 q11
    have e : ((((pv3 ++ [Value.ref T9]).toArray.size : Nat) : Int) - 1) = (pv3.length : Nat) := by simp
    rw [e] at N8
    refine grown_end (os := [(a, exprO 451 d #[some (.ref M), some idt, some (.str nm tn)]), (d, dictOf [] 0), (M, tupOf [.ref y, .ref y3]), (T9, tup5 (.str (Str.ofString "choice") _) (.int key _) (.int key3 _) (.int 0 _) (.int 0 _) 0)]) F8 N8 (by k_mem) (by k_mem) (by k_mem) (by k_mem) (List.forall_mem_cons.mpr ⟨by k_mem, List.forall_mem_cons.mpr ⟨by k_mem, List.forall_mem_cons.mpr ⟨by k_mem, List.forall_mem_cons.mpr ⟨by k_mem, List.forall_mem_nil _⟩⟩⟩⟩) (fun q hq => by (repeat (refine List.Mem.tail _ ?_)); exact hq) z1 z2 z3 (by omega) (List.forall_mem_cons.mpr ⟨by (dsimp only; omega), List.forall_mem_cons.mpr ⟨by (dsimp only; omega), List.forall_mem_cons.mpr ⟨by (dsimp only; omega), List.forall_mem_cons.mpr ⟨by (dsimp only; omega), List.forall_mem_nil _⟩⟩⟩⟩) d1 d2 d3 (by omega) (by omega)
      (GRes.push2 (e := .choice key key3) g g3 hpv3 (fun q hq => .tail _ (List.mem_append_right _ hq)) ⟨_, _, _, _, _, _, .tail _ (.tail _ (.tail _ (.tail _ (.head _))))⟩
        (raw_choice hnm (.tail _ (.head _)) (.tail _ (.tail _ (.tail _ (.head _)))) (g.ref hpv3 (fun q hq => .tail _ (List.mem_append_right _ (g3.sub _ hq))) hg4 fun j hj => (upd_ne j (by omega)).trans (g3.old j hj).2.2.1) (g3.ref (by omega) (fun q hq => .tail _ (List.mem_append_right _ hq)) (Nat.le_refl _) upd_ne)) (.tail _ (.tail _ (.head _))) l2 hrd
        (.inl rfl) (by omega)) (fun _ => ⟨by omega, by rw [upd_at]; trivial⟩)
  · unfold Halt
    rename News _ _ _ _ => N6
    rename Fr _ _ _ _ => F6
    rename_i hp6 k6 T9 h20 q10 h21
    obtain ⟨z1, z2, z3, z4⟩ := q10
    refine seq_K pf ps (by omega) (by omega) F6 N6 B X T fun a d M idt tn h5 tk5 F7 N7 l1 l2 l3 => ?_
    have hTd : @LT.lt Nat _ T9 d := l1 (T9, _) (by k_mem)
    have hrd : ∀ q ∈ rest3, @LT.lt Nat _ q.1 d := fun q hq => l1 q (by (repeat (refine List.Mem.tail _ ?_)); exact hq)
    clear F6 N6 l1
    k_steps
    all_goals (try dsimp only)
    rename News _ _ _ _ => N8
    rename Fr _ _ _ _ => F8
    rename_i tup2 h22 q11
    have e : ((((pv3 ++ [Value.ref T9]).toArray.size : Nat) : Int) - 1) = (pv3.length : Nat) := by simp
    rw [e] at N8
    refine grown_end (os := [(a, exprO 425 d #[some (.ref M), some idt, some (.str nm tn)]), (d, dictOf [] 0), (M, tupOf [.ref y, .ref y3]), (T9, tup5 (.str (Str.ofString "chain") _) (.int key _) (.int key3 _) (.int 0 _) (.int 0 _) 0)]) F8 N8 (by k_mem) (by k_mem) (by k_mem) (by k_mem) (List.forall_mem_cons.mpr ⟨by k_mem, List.forall_mem_cons.mpr ⟨by k_mem, List.forall_mem_cons.mpr ⟨by k_mem, List.forall_mem_cons.mpr ⟨by k_mem, List.forall_mem_nil _⟩⟩⟩⟩) (fun q hq => by (repeat (refine List.Mem.tail _ ?_)); exact hq) z1 z2 z3 (by omega) (List.forall_mem_cons.mpr ⟨by (dsimp only; omega), List.forall_mem_cons.mpr ⟨by (dsimp only; omega), List.forall_mem_cons.mpr ⟨by (dsimp only; omega), List.forall_mem_cons.mpr ⟨by (dsimp only; omega), List.forall_mem_nil _⟩⟩⟩⟩) d1 d2 d3 (by omega) (by omega)
      (GRes.push2 (e := .chain key key3) g g3 hpv3 (fun q hq => .tail _ (List.mem_append_right _ hq)) ⟨_, _, _, _, _, _, .tail _ (.tail _ (.tail _ (.tail _ (.head _))))⟩
        (raw_chain hnm (.tail _ (.head _)) (.tail _ (.tail _ (.tail _ (.head _)))) (g.ref hpv3 (fun q hq => .tail _ (List.mem_append_right _ (g3.sub _ hq))) hg4 fun j hj => (upd_ne j (by omega)).trans (g3.old j hj).2.2.1) (g3.ref (by omega) (fun q hq => .tail _ (List.mem_append_right _ hq)) (Nat.le_refl _) upd_ne)) (.tail _ (.tail _ (.head _))) l2 hrd
        (.inr rfl) (by omega)) (fun _ => ⟨by omega, by rw [upd_at]; trivial⟩)
end VJ
end

section
open PySem PySem.W PyProof.Rows PySem.Calls PySem.Spec
namespace VJ
set_option maxRecDepth 100000
/-! a list display of two clauses: `[elt for x0 in i0 for x1 in i1]` -/
theorem compTurn_outer (elt t0 i0 t1 i1 : PySem.Expr) (scope : Scope) (pos : Pos) (it acc : Value) (env : Env) :
    compTurn (.ListComp elt [⟨t0, i0, [], 0⟩, ⟨t1, i1, [], 0⟩] scope pos) 0 it acc env = (standAt i0.pos >>= fun _ => pyNext it >>= fun r => match r with
      | none => pure (.done .next)
      | some v => letOwnedTupleGo t0 it v >>= fun _ => assign t0 env v >>= fun _ =>
        eval i1 env >>= fun x => standAt i1.pos >>= fun _ => foldedSetIterable i1 env x >>= fun x => holding [x] (pyIter x) >>= fun it' =>
          runOwn (.compStart (.ListComp elt [⟨t0, i0, [], 0⟩, ⟨t1, i1, [], 0⟩] scope pos) 1 it' acc env) env >>= fun _ =>
          again (.compLoop (.ListComp elt [⟨t0, i0, [], 0⟩, ⟨t1, i1, [], 0⟩] scope pos) 0 it acc env)) := by rfl
theorem compTurn_inner (elt t0 i0 t1 i1 : PySem.Expr) (scope : Scope) (pos : Pos) (it acc : Value) (env : Env) :
    compTurn (.ListComp elt [⟨t0, i0, [], 0⟩, ⟨t1, i1, [], 0⟩] scope pos) 1 it acc env = (standAt i1.pos >>= fun _ => pyNext it >>= fun r => match r with
      | none => pure (.done .next)
      | some v => letOwnedTupleGo t1 it v >>= fun _ => assign t1 env v >>= fun _ =>
        (eval elt env >>= fun x => call (.builtin "list.append") [acc, x] >>= fun _ => pure ()) >>= fun _ =>
          again (.compLoop (.ListComp elt [⟨t0, i0, [], 0⟩, ⟨t1, i1, [], 0⟩] scope pos) 1 it acc env)) := by rfl
section
variable {prog : Program} {w : World} {A : Around} {E : Value → Shared → Prop} {R : Result → Shared → Prop} {s : Shared}
theorem codeAny_compLoop_outer {elt t0 i0 t1 i1 : PySem.Expr} {scope : Scope} {pos : Pos} {it acc : Value} {env : Env} (I : Nat → Shared → Prop)
    (turn : ∀ n s, I n s → wpAny (model prog w) A (pyNext it) (fun r s₁ => match r with
      | none => R (.ok .next) s₁
      | some v => wpAny (model prog w) A (assign t0 env v) (fun _ s₂ => wpAny (model prog w) A (eval i1 env) (fun x s₃ => wpAny (model prog w) A (pyIter x) (fun it' s₄ =>
          codeAny (model prog w) A (.compStart (.ListComp elt [⟨t0, i0, [], 0⟩, ⟨t1, i1, [], 0⟩] scope pos) 1 it' acc env)
            (fun r s₅ => match r with | .ok _ => ∃ m, m < n ∧ I m s₅ | .error _ => False) s₄)
          (notedBy (model prog w) A env fun e s' => R (.error e) s') s₃) (notedBy (model prog w) A env fun e s' => R (.error e) s') s₂) (notedBy (model prog w) A env fun e s' => R (.error e) s') s₁) (notedBy (model prog w) A env fun e s' => R (.error e) s') s)
    (n : Nat) (h : I n s) (ht : ∀ v, letOwnedTupleGo t0 it v = pure () := by intro _; rfl) (hs : ∀ x, foldedSetIterable i1 env x = pure x := by intro _; rfl) :
    codeAny (model prog w) A (.compLoop (.ListComp elt [⟨t0, i0, [], 0⟩, ⟨t1, i1, [], 0⟩] scope pos) 0 it acc env) R s := by
  refine codeAny_loop rfl I (fun n s hI => ?_) n h
  show wpAny _ A ((compTurn (.ListComp elt [⟨t0, i0, [], 0⟩, ⟨t1, i1, [], 0⟩] scope pos) 0 it acc env).onRaise (fun x => do noteFrame x env; theTreesLotGoes x)) _ _ s
  refine wpAny_noted ?_
  rw [compTurn_outer]
  refine wpAny_bind (wpAny_standAt (wpAny_bind (wpAny_mono (turn n s hI) (fun r s₁ h₁ => ?_) fun _ _ h' => h')))
  cases r with
  | none => exact wpAny_pure h₁
  | some v =>
    refine wpAny_bind (wpAny_of_eq (ht v) ?_)
    refine wpAny_bind (wpAny_mono h₁ (fun _ s₂ h₂ => wpAny_bind (wpAny_mono h₂ (fun x s₃ h₃ => wpAny_bind (wpAny_standAt (wpAny_bind (wpAny_of_eq (hs x) (wpAny_bind (wpAny_holding (wpAny_mono h₃ (fun it' s₄ h₄ => ?_) fun _ _ h' => h'))))))) fun _ _ h' => h')) fun _ _ h' => h')
    refine wpAny_bind (wpAny_runOwn (codeAny_mono h₄ fun r s₅ h₅ => ?_))
    cases r with
    | ok f => exact wpAny_pure ⟨rfl, h₅⟩
    | error e => exact h₅.elim
theorem codeAny_compLoop_inner {elt t0 i0 t1 i1 : PySem.Expr} {scope : Scope} {pos : Pos} {it acc : Value} {env : Env} (I : Nat → Shared → Prop)
    (turn : ∀ n s, I n s → wpAny (model prog w) A (pyNext it) (fun r s₁ => match r with
      | none => R (.ok .next) s₁
      | some v => wpAny (model prog w) A (assign t1 env v) (fun _ s₂ => wpAny (model prog w) A (eval elt env) (fun x s₃ =>
          wpAny (model prog w) A (call (.builtin "list.append") [acc, x]) (fun _ s₄ => ∃ m, m < n ∧ I m s₄) (notedBy (model prog w) A env fun e s' => R (.error e) s') s₃)
          (notedBy (model prog w) A env fun e s' => R (.error e) s') s₂) (notedBy (model prog w) A env fun e s' => R (.error e) s') s₁) (notedBy (model prog w) A env fun e s' => R (.error e) s') s)
    (n : Nat) (h : I n s) (ht : ∀ v, letOwnedTupleGo t1 it v = pure () := by intro _; rfl) :
    codeAny (model prog w) A (.compLoop (.ListComp elt [⟨t0, i0, [], 0⟩, ⟨t1, i1, [], 0⟩] scope pos) 1 it acc env) R s := by
  refine codeAny_loop rfl I (fun n s hI => ?_) n h
  show wpAny _ A ((compTurn (.ListComp elt [⟨t0, i0, [], 0⟩, ⟨t1, i1, [], 0⟩] scope pos) 1 it acc env).onRaise (fun x => do noteFrame x env; theTreesLotGoes x)) _ _ s
  refine wpAny_noted ?_
  rw [compTurn_inner]
  refine wpAny_bind (wpAny_standAt (wpAny_bind (wpAny_mono (turn n s hI) (fun r s₁ h₁ => ?_) fun _ _ h' => h')))
  cases r with
  | none => exact wpAny_pure h₁
  | some v =>
    refine wpAny_bind (wpAny_of_eq (ht v) ?_)
    exact wpAny_bind (wpAny_mono h₁ (fun _ s₂ h₂ => wpAny_bind (wpAny_bind (wpAny_mono h₂ (fun x s₃ h₃ => wpAny_bind (wpAny_mono h₃
      (fun _ s₄ h₄ => wpAny_pure (wpAny_pure ⟨rfl, h₄⟩)) fun _ _ h' => h')) fun _ _ h' => h'))) fun _ _ h' => h')
theorem codeAny_compStart_1 {elt t0 i0 t1 i1 : PySem.Expr} {scope : Scope} {pos : Pos} {it acc : Value} {env : Env}
    (h0 : codeAny (model prog w) A (.compLoop (.ListComp elt [⟨t0, i0, [], 0⟩, ⟨t1, i1, [], 0⟩] scope pos) 1 it acc env) R s)
    (h : wpAny (model prog w) A (pyIter it) (fun it' s' => codeAny (model prog w) A (.compLoop (.ListComp elt [⟨t0, i0, [], 0⟩, ⟨t1, i1, [], 0⟩] scope pos) 1 it' acc env) R s')
      (notedBy (model prog w) A env fun x s' => R (.error x) s') s) :
    codeAny (model prog w) A (.compStart (.ListComp elt [⟨t0, i0, [], 0⟩, ⟨t1, i1, [], 0⟩] scope pos) 1 it acc env) R s := by
  refine codeAny_of_tree ?_
  show wpAny _ _ ((compStart (.ListComp elt [⟨t0, i0, [], 0⟩, ⟨t1, i1, [], 0⟩] scope pos) 1 it acc env).onRaise (fun x => do noteFrame x env; standAt theWindowsPlace)) _ _ s
  refine wpAny_notedAt ?_
  unfold compStart
  show wpAny _ _ (ask >>= _) _ _ s
  refine wpAny_bind (wpAny_askSetting (wpAny_ite ?_))
  split
  · first
      | exact wpAny_bind (wpAny_pure (wpAny_pure (And.intro rfl h0)))
      | exact wpAny_pure (And.intro rfl h0)
  · first
      | exact wpAny_bind (wpAny_rule (wpAny_bind (wpAny_standAt (wpAny_bind (wpAny_mono h (fun it' s' h' => wpAny_pure (And.intro rfl h')) fun _ _ x => x)))))
      | (refine wpAny_bind (wpAny_rule ?_); show wpAny _ _ (standAt i1.pos >>= _) _ _ s; exact wpAny_bind (wpAny_standAt (wpAny_bind (wpAny_mono h (fun it' s' h' => wpAny_pure (And.intro rfl h')) fun _ _ x => x))))
end

abbrev Off (own news : List (Addr × Obj)) : Prop := ∀ p ∈ own, ∀ q ∈ news, @Ne Nat p.1 q.1
theorem Off.same {own news news' : List (Addr × Obj)} (h : Off own news) (e : news'.map (·.1) = news.map (·.1)) : Off own news' := fun p hp q hq => by
  have : q.1 ∈ news.map (·.1) := by rw [← e]; exact List.mem_map_of_mem hq
  obtain ⟨r, hr, er⟩ := List.mem_map.mp this
  rw [← er]
  exact h p hp r hr
/-- what an element leaves -/
def ElEnd (h₀ : Heap) (L : Addr) (m : Str → Option Value) (s₁ : Shared) (own : List (Addr × Obj)) (J : Value → List (Addr × Obj) → Prop) (y : Value) (s₂ : Shared) : Prop :=
  ∃ h' tk news', s₂ = { s₁ with heap := h', toks := tk } ∧ Fr h₀ L h' m ∧ News h₀ L h' (own ++ news') ∧ Off own news' ∧ J y news'
section
variable {prog : Program} {w : World} {A : Around} {E : Value → Shared → Prop} {R : Result → Shared → Prop} {s : Shared} {h₀ : Heap} {L : Addr} {m : Str → Option Value}
theorem inner_2 {elt t0 i0 i1 : PySem.Expr} {x1 : Str} {p1 : Pos} {scope : Scope} {pos : Pos} {I1 C D : Addr} {n1 l0 : Nat} {P1 : Nat → Value → Prop} {St : Nat → Heap → Prop} {cenv : Env} {ks : List (Addr × Obj)} (keepC : (Str → Option Value) → Prop) (J : Nat → List Value → List (Addr × Obj) → Prop)
    (W : Walks prog w A I1 [I1] [I1] n1 P1 St) (hIo : ∀ i h, St i h → ∃ o, h.get? I1 = some o) (hC : cenv.locals = C) (hx1 : cenv.kindOf x1 = some .local)
    (hp : (cenv.scope.kind == .class || (cenv.scope.kind == .module && cenv.locals != cenv.globals)) = false) (hkc : ∀ mC v, keepC mC → keepC fun y => if y = x1 then some v else mC y)
    (nIC : @Ne Nat I1 C) (nID : @Ne Nat I1 D) (nCD : @Ne Nat C D) (nks : ∀ q ∈ ks, @Ne Nat q.1 I1 ∧ @Ne Nat q.1 C ∧ @Ne Nat q.1 D) (hsz : l0 + n1 ≤ sizeLine)
    {o1 oC : Obj} {mC : Str → Option Value} {ys : List Value} {news : List (Addr × Obj)} (hst : St 0 s.heap) (F : Fr h₀ L s.heap m) (hoC : LCg.NsObj oC mC) (hmC : keepC mC) (N : News h₀ L s.heap (((I1, o1) :: (C, oC) :: (D, LCg.lst ys) :: ks) ++ news)) (off : Off ((I1, o1) :: (C, oC) :: (D, LCg.lst ys) :: ks) news) (hl : ys.length = l0) (hJ : J 0 ys news)
    (helt : ∀ j v o1 oC mC ys news h tk (E' : Value → Shared → Prop), j < n1 → P1 j v → LCg.NsObj oC mC → keepC mC → mC x1 = some v → Fr h₀ L h m → News h₀ L h (((I1, o1) :: (C, oC) :: (D, LCg.lst ys) :: ks) ++ news) → Off ((I1, o1) :: (C, oC) :: (D, LCg.lst ys) :: ks) news → J j ys news →
      wpAny (model prog w) A (eval elt cenv) (ElEnd h₀ L m { s with heap := h, toks := tk } ((I1, o1) :: (C, oC) :: (D, LCg.lst ys) :: ks) (fun y news' => J (j + 1) (ys ++ [y]) news')) E' { s with heap := h, toks := tk })
    (hR : ∀ h tk oC mC ys news, ys.length = l0 + n1 → LCg.NsObj oC mC → keepC mC → Fr h₀ L h m → News h₀ L h (((C, oC) :: (D, LCg.lst ys) :: ks) ++ news) → Off ((C, oC) :: (D, LCg.lst ys) :: ks) news → J n1 ys news → R (.ok .next) { s with heap := h, toks := tk }) :
    codeAny (model prog w) A (.compStart (.ListComp elt [⟨t0, i0, [], 0⟩, ⟨.Name x1 p1, i1, [], 0⟩] scope pos) 1 (.ref I1) (.ref D) cenv) R s := by
  subst hC
  have nI := (N _ (.head _)).2
  have nC := (N _ (.tail _ (.head _))).2
  have nD := (N _ (.tail _ (.tail _ (.head _)))).2
  have loop : codeAny (model prog w) A (.compLoop (.ListComp elt [⟨t0, i0, [], 0⟩, ⟨.Name x1 p1, i1, [], 0⟩] scope pos) 1 (.ref I1) (.ref D) cenv) R s := by
    refine codeAny_compLoop_inner
      (fun k s' => ∃ h' tk j ys mC o1 oC news', s' = { s with heap := h', toks := tk } ∧ j ≤ n1 ∧ k = n1 + 1 - j ∧ ys.length = l0 + j ∧ St j h' ∧ Fr h₀ L h' m ∧ LCg.NsObj oC mC ∧ keepC mC ∧ News h₀ L h' (((I1, o1) :: (cenv.locals, oC) :: (D, LCg.lst ys) :: ks) ++ news') ∧ Off ((I1, o1) :: (cenv.locals, oC) :: (D, LCg.lst ys) :: ks) news' ∧ J j ys news') ?_ (n1 + 1)
      ⟨s.heap, s.toks, 0, ys, mC, o1, oC, news, rfl, Nat.zero_le _, rfl, hl, hst, F, hoC, hmC, N, off, hJ⟩
    rintro k s' ⟨h', tk, j, ys, mC, o1, oC, news', rfl, hj, rfl, hyl, hst', F', hoC', hmC', N', off', hJ'⟩
    by_cases hlt : j < n1
    · refine W.item j _ _ _ hlt hst' fun v h₂ tk₂ hPv hst₂ hk₂ => ?_
      have zC := (N' (cenv.locals, oC) (.tail _ (.head _))).1
      refine wpAny_assign_Name (wpAny_storeName_local hx1 ((hoC'.ns zC).at' fun o e => hk₂ _ o (by simpa using Ne.symm nIC) e) (fun h₃ hn₃ hs₃ => ?_) hp)
      have hst₃ : St (j + 1) h₃ := W.frame _ _ _ hst₂ fun b hb o e => hs₃.extBut b o (fun q => nIC (by rw [← q]; exact (List.mem_singleton.mp hb).symm)) e
      obtain ⟨oI, heI⟩ := hIo _ _ hst₃
      obtain ⟨oC2, heC, hoC2⟩ := LCg.ns_obj hn₃
      have F₃ : Fr h₀ L h₃ m := (LCg.fr_but F' hk₂ (fun e => nI.1 e.symm) nI.2).change hs₃ nC.1 nC.2
      have keepN : ∀ q ∈ (D, LCg.lst ys) :: ks ++ news', @Ne Nat q.1 I1 → @Ne Nat q.1 cenv.locals → h₃.get? q.1 = some q.2 := fun q hq a b => by
        refine hs₃.extBut _ _ b (hk₂ _ _ (fun z => a (List.mem_singleton.mp z)) (N' q (.tail _ (.tail _ hq))).1)
      have offI := off' _ (.head _)
      have offC := off' _ (.tail _ (.head _))
      have offD := off' _ (.tail _ (.tail _ (.head _)))
      have N₃ : News h₀ L h₃ (((I1, oI) :: (cenv.locals, oC2) :: (D, LCg.lst ys) :: ks) ++ news') := fun q hq => by
        rcases List.mem_cons.mp hq with rfl | hq
        · exact ⟨heI, nI⟩
        rcases List.mem_cons.mp hq with rfl | hq
        · exact ⟨heC, nC⟩
        refine ⟨?_, (N' q (.tail _ (.tail _ hq))).2⟩
        rcases List.mem_cons.mp hq with rfl | hq'
        · exact keepN _ hq (Ne.symm nID) (Ne.symm nCD)
        rcases List.mem_append.mp hq' with hq' | hq'
        · exact keepN _ hq (nks q hq').1 (nks q hq').2.1
        · exact keepN _ hq (Ne.symm (offI q hq')) (Ne.symm (offC q hq'))
      have off₃ : Off ((I1, oI) :: (cenv.locals, oC2) :: (D, LCg.lst ys) :: ks) news' := fun p hp q hq => by
        rcases List.mem_cons.mp hp with rfl | hp
        · exact offI q hq
        rcases List.mem_cons.mp hp with rfl | hp
        · exact offC q hq
        · exact off' p (.tail _ (.tail _ hp)) q hq
      refine wpAny_mono (helt j v oI oC2 _ ys news' h₃ _ _ hlt hPv hoC2 (hkc _ v hmC') (if_pos rfl) F₃ N₃ off₃ hJ') (fun y s₄ h₄ => ?_) fun _ _ e => e
      obtain ⟨h₄, tk₄, news₄, rfl, F₄, N₄, off₄, J₄⟩ := h₄
      have zI := (N₄ (I1, oI) (.head _)).1
      have zD := (N₄ (D, LCg.lst ys) (.tail _ (.tail _ (.head _)))).1
      have hst₄ : St (j + 1) h₄ := W.frame _ _ _ hst₃ fun b hb o e => by
        rw [List.mem_singleton.mp hb] at e ⊢
        rw [heI] at e; cases e; exact zI
      refine append_at (hsz := by show ys.toArray.size ≤ sizeLine; rw [List.size_toArray, hyl]; omega) zD fun h₅ hs₅ hD₅ => ?_
      have offD4 := off₄ _ (.tail _ (.tail _ (.head _)))
      refine ⟨n1 + 1 - (j + 1), by omega, h₅, tk₄, j + 1, ys ++ [y], _, oI, oC2, news₄, rfl, hlt, rfl, by rw [List.length_append, List.length_singleton, hyl]; omega,
        W.frame _ _ _ hst₄ fun b hb o e => hs₅.extBut b o (fun q => nID (by rw [← q]; exact (List.mem_singleton.mp hb).symm)) e, F₄.change hs₅ nD.1 nD.2, hoC2, hkc _ v hmC', fun q hq => ?_, fun p hp q hq => ?_, J₄⟩
      · have key : ∀ r ∈ ((I1, oI) :: (cenv.locals, oC2) :: (D, LCg.lst ys) :: ks) ++ news₄, @Ne Nat r.1 D → h₅.get? r.1 = some r.2 ∧ r.1 ≠ L ∧ h₀.get? r.1 = none := fun r hr hn => ⟨hs₅.extBut _ _ hn (N₄ r hr).1, (N₄ r hr).2⟩
        rcases List.mem_cons.mp hq with rfl | hq
        · exact key _ (.head _) nID
        rcases List.mem_cons.mp hq with rfl | hq
        · exact key _ (.tail _ (.head _)) nCD
        rcases List.mem_cons.mp hq with rfl | hq
        · exact ⟨hD₅.trans (congrArg some (LCg.lst_snoc ys y)), nD⟩
        · refine key _ (.tail _ (.tail _ (.tail _ hq))) ?_
          rcases List.mem_append.mp hq with hq | hq
          · exact (nks q hq).2.2
          · exact Ne.symm (offD4 q hq)
      · rcases List.mem_cons.mp hp with rfl | hp
        · exact off₄ _ (.head _) q hq
        rcases List.mem_cons.mp hp with rfl | hp
        · exact off₄ _ (.tail _ (.head _)) q hq
        rcases List.mem_cons.mp hp with rfl | hp
        · exact offD4 q hq
        · exact off₄ p (.tail _ (.tail _ (.tail _ hp))) q hq
    · obtain rfl : j = n1 := Nat.le_antisymm hj (Nat.not_lt.mp hlt)
      refine W.done _ _ _ hst' fun h₂ tk₂ hk₂ => ?_
      have offI := off' _ (.head _)
      exact hR h₂ tk₂ oC mC ys news' hyl hoC' hmC' (LCg.fr_but F' hk₂ (fun e => nI.1 e.symm) nI.2) (LCg.news_but (fun q hq => N' q (.tail _ hq)) hk₂ fun q hq => by
        rcases List.mem_cons.mp hq with rfl | hq
        · exact Ne.symm nIC
        rcases List.mem_cons.mp hq with rfl | hq
        · exact Ne.symm nID
        rcases List.mem_append.mp hq with hq | hq
        · exact (nks q hq).1
        · exact Ne.symm (offI q hq)) (fun p hp => off' p (.tail _ hp)) hJ'
  exact codeAny_compStart_1 loop (W.self 0 _ _ _ hst loop)
/-- the iterable of the inner clause -/
def InnerSrc (prog : Program) (w : World) (A : Around) (i1 : PySem.Expr) (cenv : Env) (n1 : Nat) (P1 : Nat → Value → Prop) (s : Shared) : Prop :=
  ∀ (E' : Value → Shared → Prop) (Q' : Value → Shared → Prop), (∀ (I1 : Addr) (St : Nat → Heap → Prop) h' tk', Walks prog w A I1 [I1] [I1] n1 P1 St → (∀ i h, St i h → ∃ o, h.get? I1 = some o) → St 0 h' → s.heap.get? I1 = none → (∀ b o, s.heap.get? b = some o → h'.get? b = some o) → Q' (.ref I1) { s with heap := h', toks := tk' }) →
    wpAny (model prog w) A (eval i1 cenv) (fun x s' => wpAny (model prog w) A (pyIter x) Q' E' s') E' s
theorem outer_2 {elt i0 i1 : PySem.Expr} {x0 x1 : Str} {p0 p1 : Pos} {scope : Scope} {pos : Pos} {I0 S C D : Addr} {n1 : Nat} {P1 : Nat → Value → Prop} {cenv : Env} {its : Array Value} {oS : Obj} (J : Nat → Nat → List Value → List (Addr × Obj) → Prop)
    (hh : A.handled = none) (hs1 : ∀ x, foldedSetIterable i1 cenv x = pure x) (hoS : oS.cls = .type "list" ∧ ∃ n, oS.data = .seq its n) (hC : cenv.locals = C) (hx0 : cenv.kindOf x0 = some .local) (hx1 : cenv.kindOf x1 = some .local) (hx01 : x0 ≠ x1)
    (hp : (cenv.scope.kind == .class || (cenv.scope.kind == .module && cenv.locals != cenv.globals)) = false)
    (nIC : @Ne Nat I0 C) (nID : @Ne Nat I0 D) (nCD : @Ne Nat C D) (nS : @Ne Nat S I0 ∧ @Ne Nat S C ∧ @Ne Nat S D) (hsz : its.size * n1 ≤ sizeLine)
    {o0 oC : Obj} {mC : Str → Option Value} {news : List (Addr × Obj)} (hst : s.heap.IsListIter I0 S 0) (F : Fr h₀ L s.heap m) (hoC : LCg.NsObj oC mC) (N : News h₀ L s.heap (((C, oC) :: (D, LCg.lst []) :: (I0, o0) :: (S, oS) :: []) ++ news)) (off : Off ((C, oC) :: (D, LCg.lst []) :: (I0, o0) :: (S, oS) :: []) news) (hJ : J 0 0 [] news)
    (hJJ : ∀ i ys news, i < its.size → J i n1 ys news → J (i + 1) 0 ys news)
    (hin : ∀ i v0 oC mC ys own news h tk, its[i]? = some v0 → (C, oC) ∈ own → LCg.NsObj oC mC → mC x0 = some v0 → Fr h₀ L h m → News h₀ L h (own ++ news) → Off own news → J i 0 ys news → InnerSrc prog w A i1 cenv n1 P1 { s with heap := h, toks := tk })
    (helt : ∀ i j v0 v1 oC mC ys own news h tk (E' : Value → Shared → Prop), its[i]? = some v0 → j < n1 → P1 j v1 → (C, oC) ∈ own → LCg.NsObj oC mC → mC x0 = some v0 → mC x1 = some v1 → Fr h₀ L h m → News h₀ L h (own ++ news) → Off own news → J i j ys news →
      wpAny (model prog w) A (eval elt cenv) (ElEnd h₀ L m { s with heap := h, toks := tk } own (fun y news' => J i (j + 1) (ys ++ [y]) news')) E' { s with heap := h, toks := tk })
    (hR : ∀ h tk oC mC ys news, LCg.NsObj oC mC → Fr h₀ L h m → News h₀ L h (((C, oC) :: (D, LCg.lst ys) :: (S, oS) :: []) ++ news) → Off ((C, oC) :: (D, LCg.lst ys) :: (S, oS) :: []) news → J its.size 0 ys news → ys.length = its.size * n1 → R (.ok .next) { s with heap := h, toks := tk }) :
    codeAny (model prog w) A (.compStart (.ListComp elt [⟨.Name x0 p0, i0, [], 0⟩, ⟨.Name x1 p1, i1, [], 0⟩] scope pos) 0 (.ref I0) (.ref D) cenv) R s := by
  subst hC
  have W := Walks.list (prog := prog) (w := w) (A := A) hh I0 S nS.1 its
  have nI := (N (I0, o0) (.tail _ (.tail _ (.head _)))).2
  have nC := (N _ (.head _)).2
  have nD := (N _ (.tail _ (.head _))).2
  have nSS := (N (S, oS) (.tail _ (.tail _ (.tail _ (.head _))))).2
  have isS : ∀ h : Heap, h.get? S = some oS → h.IsList S its := fun h e => ⟨oS, e, hoS.1, hoS.2⟩
  have loop : codeAny (model prog w) A (.compLoop (.ListComp elt [⟨.Name x0 p0, i0, [], 0⟩, ⟨.Name x1 p1, i1, [], 0⟩] scope pos) 0 (.ref I0) (.ref D) cenv) R s := by
    refine codeAny_compLoop_outer (hs := hs1)
      (fun k s' => ∃ h' tk i ys mC o0 oC news', s' = { s with heap := h', toks := tk } ∧ i ≤ its.size ∧ k = its.size + 1 - i ∧ ys.length = i * n1 ∧ h'.IsListIter I0 S i ∧ Fr h₀ L h' m ∧ LCg.NsObj oC mC ∧ News h₀ L h' (((cenv.locals, oC) :: (D, LCg.lst ys) :: (I0, o0) :: (S, oS) :: []) ++ news') ∧ Off ((cenv.locals, oC) :: (D, LCg.lst ys) :: (I0, o0) :: (S, oS) :: []) news' ∧ J i 0 ys news') ?_ (its.size + 1)
      ⟨s.heap, s.toks, 0, [], mC, o0, oC, news, rfl, Nat.zero_le _, rfl, (by simp), hst, F, hoC, N, off, hJ⟩
    rintro k s' ⟨h', tk, i, ys, mC, o0, oC, news', rfl, hi, rfl, hyl, hst', F', hoC', N', off', hJ'⟩
    have zS := (N' (S, oS) (.tail _ (.tail _ (.tail _ (.head _))))).1
    by_cases hlt : i < its.size
    · refine W.item i _ _ _ hlt ⟨hst', isS _ zS⟩ fun v h₂ tk₂ hPv hst₂ hk₂ => ?_
      have zC := (N' (cenv.locals, oC) (.head _)).1
      refine wpAny_assign_Name (wpAny_storeName_local hx0 ((hoC'.ns zC).at' fun o e => hk₂ _ o (by simpa using Ne.symm nIC) e) (fun h₃ hn₃ hs₃ => ?_) hp)
      have hst₃ : h₃.IsListIter I0 S (i + 1) := hst₂.1.at fun o e => hs₃.extBut _ o nIC e
      obtain ⟨oI, heI, _⟩ := id hst₃
      obtain ⟨oC2, heC, hoC2⟩ := LCg.ns_obj hn₃
      have F₃ : Fr h₀ L h₃ m := (LCg.fr_but F' hk₂ (fun e => nI.1 e.symm) nI.2).change hs₃ nC.1 nC.2
      have offC := off' _ (.head _)
      have offD := off' _ (.tail _ (.head _))
      have offI := off' _ (.tail _ (.tail _ (.head _)))
      have offS := off' _ (.tail _ (.tail _ (.tail _ (.head _))))
      have N₃ : News h₀ L h₃ (((cenv.locals, oC2) :: (D, LCg.lst ys) :: (I0, oI) :: (S, oS) :: []) ++ news') := fun q hq => by
        have key : ∀ r ∈ ((cenv.locals, oC) :: (D, LCg.lst ys) :: (I0, o0) :: (S, oS) :: []) ++ news', @Ne Nat r.1 cenv.locals → @Ne Nat r.1 I0 → h₃.get? r.1 = some r.2 ∧ r.1 ≠ L ∧ h₀.get? r.1 = none := fun r hr a b => ⟨hs₃.extBut _ _ a (hk₂ _ _ (fun z => b (List.mem_singleton.mp z)) (N' r hr).1), (N' r hr).2⟩
        rcases List.mem_cons.mp hq with rfl | hq
        · exact ⟨heC, nC⟩
        rcases List.mem_cons.mp hq with rfl | hq
        · exact key _ (.tail _ (.head _)) (Ne.symm nCD) (Ne.symm nID)
        rcases List.mem_cons.mp hq with rfl | hq
        · exact ⟨heI, nI⟩
        rcases List.mem_cons.mp hq with rfl | hq
        · exact key _ (.tail _ (.tail _ (.tail _ (.head _)))) nS.2.1 nS.1
        · exact key _ (.tail _ (.tail _ (.tail _ (.tail _ hq)))) (Ne.symm (offC q hq)) (Ne.symm (offI q hq))
      have off₃ : Off ((cenv.locals, oC2) :: (D, LCg.lst ys) :: (I0, oI) :: (S, oS) :: []) news' := fun p hp q hq => by
        rcases List.mem_cons.mp hp with rfl | hp
        · exact offC q hq
        rcases List.mem_cons.mp hp with rfl | hp
        · exact offD q hq
        rcases List.mem_cons.mp hp with rfl | hp
        · exact offI q hq
        · exact off' p (.tail _ (.tail _ (.tail _ hp))) q hq
      refine hin i v oC2 _ ys _ news' h₃ _ hPv (.head _) hoC2 (if_pos rfl) F₃ N₃ off₃ hJ' _ _ fun I1 St h₄ tk₄ W1 hIo hst1 hI1 hk₄ => ?_
      have fr : ∀ b o, h₃.get? b = some o → @Ne Nat I1 b := fun b o e z => by rw [z, e] at hI1; cases hI1
      have F₄ := F₃.keeps hk₄
      have hI1₀ : h₀.get? I1 = none := by
        cases e : h₀.get? I1 with
        | none => rfl
        | some o => have := F₃.keep _ _ e; rw [hI1] at this; cases this
      have hI1L : I1 ≠ L := by obtain ⟨oL, _, _, e, _⟩ := F₃.ns; exact fr _ _ e
      obtain ⟨o1, he1⟩ := hIo _ _ hst1
      have N₄ : News h₀ L h₄ (((I1, o1) :: (cenv.locals, oC2) :: (D, LCg.lst ys) :: (I0, oI) :: (S, oS) :: []) ++ news') := fun q hq => by
        rcases List.mem_cons.mp hq with rfl | hq
        · exact ⟨he1, hI1L, hI1₀⟩
        · exact ⟨hk₄ _ _ (N₃ q hq).1, (N₃ q hq).2⟩
      have off₄ : Off ((I1, o1) :: (cenv.locals, oC2) :: (D, LCg.lst ys) :: (I0, oI) :: (S, oS) :: []) news' := fun p hp q hq => by
        rcases List.mem_cons.mp hp with rfl | hp
        · exact fr _ _ (N₃ q (List.mem_append_right _ hq)).1
        · exact off₃ p hp q hq
      refine inner_2 (ks := (I0, oI) :: (S, oS) :: []) (l0 := i * n1) (C := cenv.locals) (fun mC => mC x0 = some v) (J i) W1 hIo rfl hx1 hp (fun mC u e => by show (if x0 = x1 then _ else _) = _; rw [if_neg hx01]; exact e) (fr _ _ heC) (fr _ _ (N₃ _ (.tail _ (.head _))).1) nCD
        (List.forall_mem_cons.mpr ⟨⟨Ne.symm (fr _ _ heI), nIC, nID⟩, List.forall_mem_cons.mpr ⟨⟨Ne.symm (fr _ _ (N₃ (S, oS) (.tail _ (.tail _ (.tail _ (.head _))))).1), nS.2⟩, fun _ h => nomatch h⟩⟩) ?_ hst1 F₄ hoC2 (if_pos rfl) N₄ off₄ hyl hJ' ?_ ?_
      · refine Nat.le_trans ?_ hsz
        rw [← Nat.succ_mul]
        exact Nat.mul_le_mul_right _ hlt
      · intro j v1 o1 oC mC ys news h tk E' hj hP1 hoC hk hm1 F N off hJ
        exact helt i j v v1 oC mC ys _ news h tk E' hPv hj hP1 (.tail _ (.head _)) hoC hk hm1 F N off hJ
      · intro h tk oC mC ys news hyl hoC hk F N off hJ
        have hst5 : h.IsListIter I0 S (i + 1) := hst₃.at fun o e => by
          rw [heI] at e; cases e
          exact (N (I0, oI) (.tail _ (.tail _ (.head _)))).1
        exact ⟨its.size + 1 - (i + 1), by omega, h, tk, i + 1, ys, mC, oI, oC, news, rfl, hlt, rfl, by rw [hyl, Nat.succ_mul], hst5, F, hoC, N, off, hJJ i ys news hlt hJ⟩
    · obtain rfl : i = its.size := Nat.le_antisymm hi (Nat.not_lt.mp hlt)
      refine W.done _ _ _ ⟨hst', isS _ zS⟩ fun h₂ tk₂ hk₂ => ?_
      have offC := off' _ (.head _)
      have offD := off' _ (.tail _ (.head _))
      have offI := off' _ (.tail _ (.tail _ (.head _)))
      have offS := off' _ (.tail _ (.tail _ (.tail _ (.head _))))
      refine hR h₂ tk₂ oC mC ys news' hoC' (LCg.fr_but F' hk₂ (fun e => nI.1 e.symm) nI.2) (LCg.news_but (news := ((cenv.locals, oC) :: (D, LCg.lst ys) :: (S, oS) :: []) ++ news') (fun q hq => N' q ?_) hk₂ fun q hq => ?_) (fun p hp => off' p ?_) hJ' hyl
      · rcases List.mem_cons.mp hq with rfl | hq
        · exact .head _
        rcases List.mem_cons.mp hq with rfl | hq
        · exact .tail _ (.head _)
        · exact .tail _ (.tail _ (.tail _ hq))
      · rcases List.mem_cons.mp hq with rfl | hq
        · exact Ne.symm nIC
        rcases List.mem_cons.mp hq with rfl | hq
        · exact Ne.symm nID
        rcases List.mem_cons.mp hq with rfl | hq
        · exact nS.1
        · exact Ne.symm (offI q hq)
      · rcases List.mem_cons.mp hp with rfl | hp
        · exact .head _
        rcases List.mem_cons.mp hp with rfl | hp
        · exact .tail _ (.head _)
        · exact .tail _ (.tail _ (.tail _ hp))
  exact codeAny_compStart_list loop (W.self 0 _ _ _ ⟨hst, isS _ (N (S, oS) (.tail _ (.tail _ (.tail _ (.head _))))).1⟩ loop)
/-- the two clauses, once the first iterable is told -/
structure Two (prog : Program) (w : World) (A : Around) (h₀ : Heap) (L : Addr) (m : Str → Option Value) (env : Env) (elt i1 : PySem.Expr) (x0 x1 : Str) (scope : Scope) (cl : List (Str × Addr)) (S : Addr) (oS : Obj) (its : Array Value) (n1 : Nat) (P1 : Nat → Value → Prop)
    (J : Nat → Nat → List Value → List (Addr × Obj) → Prop) (news : List (Addr × Obj)) (s₁ : Shared) : Prop where
  hh : A.handled = none
  fr : Fr h₀ L s₁.heap m
  led : News h₀ L s₁.heap ((S, oS) :: news)
  off : ∀ q ∈ news, @Ne Nat S q.1
  lst : oS.cls = .type "list" ∧ ∃ n, oS.data = .seq its n
  size : its.size * n1 ≤ sizeLine
  init : J 0 0 [] news
  turn : ∀ i ys news, i < its.size → J i n1 ys news → J (i + 1) 0 ys news
  inner : ∀ C i v0 oC mC ys own news h tk, its[i]? = some v0 → (C, oC) ∈ own → LCg.NsObj oC mC → mC x0 = some v0 → Fr h₀ L h m → News h₀ L h (own ++ news) → Off own news → J i 0 ys news → InnerSrc prog w A i1 (compEnvC scope cl C env) n1 P1 { s₁ with heap := h, toks := tk }
  elt : ∀ C i j v0 v1 oC mC ys own news h tk (E' : Value → Shared → Prop), its[i]? = some v0 → j < n1 → P1 j v1 → (C, oC) ∈ own → LCg.NsObj oC mC → mC x0 = some v0 → mC x1 = some v1 → Fr h₀ L h m → News h₀ L h (own ++ news) → Off own news → J i j ys news →
      wpAny (model prog w) A (eval elt (compEnvC scope cl C env)) (ElEnd h₀ L m { s₁ with heap := h, toks := tk } own (fun y news' => J i (j + 1) (ys ++ [y]) news')) E' { s₁ with heap := h, toks := tk }
theorem block_2 {elt i0 i1 : PySem.Expr} {x0 x1 : Str} {p0 p1 : Pos} {scope : Scope} {cl : List (Str × Addr)} {env : Env} {pos : Pos} {S : Addr} {oS : Obj} {its : Array Value} {n1 : Nat} {P1 : Nat → Value → Prop} {J : Nat → Nat → List Value → List (Addr × Obj) → Prop} {news : List (Addr × Obj)} {s₁ : Shared} {RR : Value → Addr → Result → Shared → Prop}
    (T : Two prog w A h₀ L m env elt i1 x0 x1 scope cl S oS its n1 P1 J news s₁)
    (hcell : ∀ y ∈ scope.names, y.2 ≠ .cell) (hkind : scope.kind = .function) (hx0 : scope.names.lookup x0 = some .local) (hx1 : scope.names.lookup x1 = some .local) (hx01 : x0 ≠ x1) (hs1 : ∀ C x, foldedSetIterable i1 (compEnvC scope cl C env) x = pure x)
    (hRR : ∀ D C h tk oC mC ys news, LCg.NsObj oC mC → Fr h₀ L h m → News h₀ L h (((C, oC) :: (D, LCg.lst ys) :: (S, oS) :: []) ++ news) → Off ((C, oC) :: (D, LCg.lst ys) :: (S, oS) :: []) news → @Ne Nat C D → @Ne Nat S C → @Ne Nat S D → J its.size 0 ys news → ys.length = its.size * n1 → RR (.ref D) C (.ok .next) { s₁ with heap := h, toks := tk }) :
    wpAny (model prog w) A (pyIter (.ref S)) (fun it s₂ => wpAny (model prog w) A (newList []) (fun acc s₃ => wpAny (model prog w) A (newFunctionEnv scope env.globals cl [] env.qual none .none (some env)) (fun cenv s₄ =>
      codeAny (model prog w) A (.compStart (.ListComp elt [⟨.Name x0 p0, i0, [], 0⟩, ⟨.Name x1 p1, i1, [], 0⟩] scope pos) 0 it acc { cenv with scope := relabel scope env }) (RR acc cenv.locals) s₄) E s₃) E s₂) E s₁ := by
  obtain ⟨hh, F, N, off, hoS, hsz, h0, hJJ, hin, helt⟩ := T
  have hl : s₁.heap.IsList S its := ⟨oS, (N _ (.head _)).1, hoS.1, hoS.2⟩
  have hS : S < s₁.heap.objs.size := Heap.lt_size (N _ (.head _)).1
  refine wpAny_pyIter_list hl ?_
  refine wpAny_newObj_type (wpAny_newFunctionEnv hcell (by intro y hy; simp at hy) (fun h₁ hns₁ hsb₁ => ?_) hkind)
  dsimp only at hns₁ hsb₁ ⊢
  generalize hH1 : s₁.heap.push { cls := .type "list_iterator", data := .fields #[.ref S, .int 0 0] } = H1 at hns₁ hsb₁ ⊢
  have hD : H1.objs.size = s₁.heap.objs.size + 1 := by rw [← hH1, Heap.size_push]
  generalize hH2 : H1.push { cls := .type "list", dict := none, data := .seq ([] : List Value).toArray } = H2 at hns₁ hsb₁ ⊢
  have hC : H2.objs.size = s₁.heap.objs.size + 2 := by rw [← hH2, Heap.size_push, hD]
  have nID : @Ne Nat s₁.heap.objs.size H1.objs.size := by rw [hD]; exact Nat.ne_of_lt (Nat.lt_succ_self _)
  have nIC : @Ne Nat s₁.heap.objs.size H2.objs.size := by rw [hC]; exact Nat.ne_of_lt (Nat.lt_succ_of_lt (Nat.lt_succ_self _))
  have nCD : @Ne Nat H2.objs.size H1.objs.size := by rw [hD, hC]; exact Ne.symm (Nat.ne_of_lt (Nat.lt_succ_self _))
  have below : ∀ b, b < s₁.heap.objs.size → @Ne Nat b H2.objs.size ∧ @Ne Nat b s₁.heap.objs.size ∧ @Ne Nat b H1.objs.size := fun b hb =>
    ⟨by rw [hC]; exact Nat.ne_of_lt (Nat.lt_succ_of_lt (Nat.lt_succ_of_lt hb)), Nat.ne_of_lt hb, by rw [hD]; exact Nat.ne_of_lt (Nat.lt_succ_of_lt hb)⟩
  have old : ∀ b o, s₁.heap.get? b = some o → h₁.get? b = some o := fun b o e =>
    hsb₁.extBut b o (below b (Heap.lt_size e)).1 (Heap.get?_push_of_some _ (hH2 ▸ Heap.get?_push_of_some _ (hH1 ▸ Heap.get?_push_of_some _ e)))
  have hit : h₁.get? s₁.heap.objs.size = some { cls := .type "list_iterator", data := .fields #[.ref S, .int 0 0] } :=
    hsb₁.extBut _ _ nIC (Heap.get?_push_of_some _ (hH2 ▸ Heap.get?_push_of_some _ (hH1 ▸ Heap.get?_push_size _ rfl)))
  have hacc : h₁.get? H1.objs.size = some (LCg.lst []) := hsb₁.extBut _ _ (Ne.symm nCD) (Heap.get?_push_of_some _ (hH2 ▸ Heap.get?_push_size _ rfl))
  have fresh₀ : ∀ a, s₁.heap.objs.size ≤ a → h₀.get? a = none := fun a ha => by
    cases e : h₀.get? a with
    | none => rfl
    | some o' => exact absurd (Heap.lt_size (F.keep a o' e)) (Nat.not_lt.mpr ha)
  have hLlt : L < s₁.heap.objs.size := F.ns.lt
  obtain ⟨oC, heC, hoC⟩ := LCg.ns_obj hns₁
  have bl := below L hLlt
  have bn : ∀ q ∈ (S, oS) :: news, q.1 < s₁.heap.objs.size := fun q hq => Heap.lt_size (N q hq).1
  refine outer_2 (C := H2.objs.size) (D := H1.objs.size) (cenv := compEnvC scope cl H2.objs.size env) (oC := oC) (o0 := { cls := .type "list_iterator", data := .fields #[.ref S, .int 0 0] }) J hh (hs1 _) hoS rfl (lookup_relabel_local hx0) (lookup_relabel_local hx1) hx01 (by simp [compEnvC, relabel, hkind]) nIC nID nCD ⟨(below S hS).2.1, (below S hS).1, (below S hS).2.2⟩ hsz
    ⟨_, hit, rfl, rfl⟩ (F.keeps old) hoC (fun q hq => ?_) (fun p hp q hq => ?_) h0 hJJ (hin _) (helt _) ?_
  · rcases List.mem_cons.mp hq with rfl | hq
    · exact ⟨heC, Ne.symm bl.1, fresh₀ _ (by rw [hC]; exact Nat.le_add_right _ _)⟩
    rcases List.mem_cons.mp hq with rfl | hq
    · exact ⟨hacc, Ne.symm bl.2.2, fresh₀ _ (by rw [hD]; exact Nat.le_succ _)⟩
    rcases List.mem_cons.mp hq with rfl | hq
    · exact ⟨hit, Ne.symm bl.2.1, fresh₀ _ (Nat.le_refl _)⟩
    · exact ⟨old _ _ (N q hq).1, (N q hq).2⟩
  · have hb := bn q (.tail _ hq)
    rcases List.mem_cons.mp hp with rfl | hp
    · exact Ne.symm (below _ hb).1
    rcases List.mem_cons.mp hp with rfl | hp
    · exact Ne.symm (below _ hb).2.2
    rcases List.mem_cons.mp hp with rfl | hp
    · exact Ne.symm (below _ hb).2.1
    · rw [List.mem_singleton.mp hp]; exact off q hq
  · intro h tk oC mC ys news hoC F N off hJ hyl
    exact hRR _ _ h tk oC mC ys news hoC F N off nCD (below S hS).1 (below S hS).2.2 hJ hyl
/-- what is asked where the first iterable is told -/
def TwoSrc (prog : Program) (w : World) (A : Around) (h₀ : Heap) (L : Addr) (m : Str → Option Value) (env : Env) (elt i1 : PySem.Expr) (x0 x1 : Str) (scope : Scope) (cl : List (Str × Addr)) (mD : Addr → Str → Option Value) (Q' : Addr → Shared → Prop) (xv : Value) (s₁ : Shared) : Prop :=
  ∃ S oS its n1 P1 J news, xv = .ref S ∧ Two prog w A h₀ L m env elt i1 x0 x1 scope cl S oS its n1 P1 J news s₁ ∧
    ∀ D h tk ys news, Fr h₀ L h (mD D) → News h₀ L h (((D, LCg.lst ys) :: (S, oS) :: []) ++ news) → Off ((D, LCg.lst ys) :: (S, oS) :: []) news → @Ne Nat S D → J its.size 0 ys news → ys.length = its.size * n1 → Q' D { s₁ with heap := h, toks := tk }
theorem ListComp_2 {elt i0 i1 : PySem.Expr} {x0 x1 : Str} {p0 p1 : Pos} {scope : Scope} {cl : List (Str × Addr)} {env : Env} {pos : Pos} {Q : Value → Shared → Prop}
    (hclos : closureFor scope env = pure cl) (hcell : ∀ y ∈ scope.names, y.2 ≠ .cell) (hkind : scope.kind = .function)
    (hnames : ∀ y ∈ scope.names, y.2 = .local → scope.names.lookup y.1 = some .local) (hx0 : scope.names.lookup x0 = some .local) (hx1 : scope.names.lookup x1 = some .local) (hx01 : x0 ≠ x1) (hs1 : ∀ C x, foldedSetIterable i1 (compEnvC scope cl C env) x = pure x)
    (h : wpAny (model prog w) A (eval i0 env) (TwoSrc prog w A h₀ L m env elt i1 x0 x1 scope cl (fun _ => m) (fun D s' => Q (.ref D) s')) E s)
    (hs : ∀ x, foldedSetIterable i0 env x = pure x := by intro _; rfl) :
    wpAny (model prog w) A (eval (.ListComp elt [⟨.Name x0 p0, i0, [], 0⟩, ⟨.Name x1 p1, i1, [], 0⟩] scope pos) env) Q E s := by
  rw [eval_ListComp]
  refine wpAny_comprehension_free (use := none) rfl hs hclos hkind hnames (wpAny_mono h (fun xv s₁ h₁ => ?_) fun _ _ e => e)
  obtain ⟨S, oS, its, n1, P1, J, news, rfl, T, fin⟩ := h₁
  refine block_2 T hcell hkind hx0 hx1 hx01 hs1 ?_
  intro D C h tk oC mC ys news hoC F N off nCD nSC nSD hJ hyl
  have nC := (N _ (.head _))
  refine ⟨mC, hoC.ns nC.1, fun h'' hs'' => fin D h'' tk ys news (F.change hs'' nC.2.1 nC.2.2) (fun q hq => ?_) (fun p hp => off p (.tail _ hp)) nSD hJ hyl⟩
  refine ⟨hs''.extBut _ _ ?_ (N q (.tail _ hq)).1, (N q (.tail _ hq)).2⟩
  rcases List.mem_cons.mp hq with rfl | hq
  · exact Ne.symm nCD
  rcases List.mem_cons.mp hq with rfl | hq
  · exact nSC
  · exact Ne.symm (off _ (.head _) q hq)
theorem Assign_ListComp_2 {elt i0 i1 : PySem.Expr} {x0 x1 y : Str} {p0 p1 py : Pos} {scope : Scope} {cl : List (Str × Addr)} {env : Env} {pos spos : Pos} {Q : Flow → Shared → Prop} (hLe : env.locals = L)
    (hsw : swapsWith (.ListComp elt [⟨.Name x0 p0, i0, [], 0⟩, ⟨.Name x1 p1, i1, [], 0⟩] scope pos) (some (.Name y py)) spos.line env = pure true)
    (hclos : closureFor scope env = pure cl) (hcell : ∀ y ∈ scope.names, y.2 ≠ .cell) (hkind : scope.kind = .function)
    (hnames : ∀ y ∈ scope.names, y.2 = .local → scope.names.lookup y.1 = some .local) (hx0 : scope.names.lookup x0 = some .local) (hx1 : scope.names.lookup x1 = some .local) (hx01 : x0 ≠ x1) (hs1 : ∀ C x, foldedSetIterable i1 (compEnvC scope cl C env) x = pure x)
    (hy : env.kindOf y = some .local) (hp : (env.scope.kind == .class || (env.scope.kind == .module && env.locals != env.globals)) = false)
    (h : wpAny (model prog w) A (eval i0 env) (TwoSrc prog w A h₀ L m env elt i1 x0 x1 scope cl (fun D z => if z = y then some (.ref D) else m z) (fun _ s' => Q .next s')) E s)
    (hs : ∀ x, foldedSetIterable i0 env x = pure x := by intro _; rfl) :
    wpAny (model prog w) A (exec (.Assign [.Name y py] (.ListComp elt [⟨.Name x0 p0, i0, [], 0⟩, ⟨.Name x1 p1, i1, [], 0⟩] scope pos) spos) env) Q E s := by
  subst hLe
  rw [exec_Assign_Name_used _ _ _ _ hsw]
  refine wpAny_bind (wpAny_standAt (wpAny_bind ?_))
  show wpAny _ A (do let _ ← comprehension (.ListComp elt [⟨.Name x0 p0, i0, [], 0⟩, ⟨.Name x1 p1, i1, [], 0⟩] scope pos) scope env _ (newList []) false (eval i0 env) (some (assign (.Name y py) env))) _ _ s
  refine wpAny_bind (wpAny_mono (wpAny_comprehension_free (use := some (assign (.Name y py) env)) (Q := fun _ s' => Q .next s') rfl hs hclos hkind hnames
    (wpAny_mono h (fun xv s₁ h₁ => ?_) fun _ _ e => e)) (fun _ s' hq => wpAny_pure (wpAny_pure hq)) fun _ _ e => e)
  obtain ⟨S, oS, its, n1, P1, J, news, rfl, T, fin⟩ := h₁
  refine block_2 T hcell hkind hx0 hx1 hx01 hs1 ?_
  intro D C h tk oC mC ys news hoC F N off nCD nSC nSD hJ hyl
  have nC := (N _ (.head _))
  show wpAny _ A (assign (.Name y py) env (.ref D)) _ _ _
  refine wpAny_assign_Name (wpAny_storeName_local hy F.ns (fun h₂ hn₂ hs₂ => ?_) hp)
  have hL₀ : h₀.get? env.locals = none := Heap.get?_none_of_le F.above
  have F₂ : Fr h₀ env.locals h₂ (fun z => if z = y then some (.ref D) else m z) := ⟨hn₂, fun b o e => hs₂.extBut b o (fun q => by rw [q, hL₀] at e; cases e) (F.keep b o e), F.above⟩
  refine ⟨mC, (hoC.ns nC.1).sameBut hs₂ nC.2.1, fun h'' hs'' => fin D h'' _ ys news (F₂.change hs'' nC.2.1 nC.2.2) (fun q hq => ?_) (fun p hp => off p (.tail _ hp)) nSD hJ hyl⟩
  have z : h₂.get? q.1 = some q.2 := hs₂.extBut _ _ (N q (.tail _ hq)).2.1 (N q (.tail _ hq)).1
  refine ⟨hs''.extBut _ _ ?_ z, (N q (.tail _ hq)).2⟩
  rcases List.mem_cons.mp hq with rfl | hq
  · exact Ne.symm nCD
  rcases List.mem_cons.mp hq with rfl | hq
  · exact nSC
  · exact Ne.symm (off _ (.head _) q hq)
end
section
variable {prog : Program} {w : World} {A : Around} {E : Value → Shared → Prop} {s : Shared} {h₀ : Heap} {L : Addr} {m : Str → Option Value} {env : Env} {elt : PySem.Expr} {x : Str} {scope : Scope} {cl : List (Str × Addr)} {S : List (Addr × Obj) → Prop} {P : Nat → Value → Prop} {Fin : List Value → List (Addr × Obj) → Prop}
/-- a list display of one clause, by what holds after each turn -/
theorem comp_inv {n : Nat} {news : List (Addr × Obj)} (J : Nat → List Value → List (Addr × Obj) → Prop) (h0 : J 0 [] news)
    (step : ∀ i v I oI C oC D m₂ ys nx h tk (E' : Value → Shared → Prop), i < n → P i v → LCg.NsObj oC m₂ → m₂ x = some v → Fr h₀ L h m → News h₀ L h ([(I, oI), (C, oC), (D, LCg.lst ys)] ++ nx) → Off [(I, oI), (C, oC), (D, LCg.lst ys)] nx → ((@Ne Nat I C) ∧ (@Ne Nat I D) ∧ (@Ne Nat C D)) → J i ys nx →
      wpAny (model prog w) A (eval elt (compEnvC scope cl C env)) (ElEnd h₀ L m { s with heap := h, toks := tk } [(I, oI), (C, oC), (D, LCg.lst ys)] (fun y nx' => S nx' ∧ J (i + 1) (ys ++ [y]) nx')) E' { s with heap := h, toks := tk })
    (fin : ∀ ys nx, ys.length = n → J n ys nx → Fin ys nx) : LCg.CompRest prog w A h₀ L m env elt x scope cl s S P Fin n 0 [] news := by
  have key : ∀ (j i : Nat) (ys : List Value) nx, i + j = n → ys.length = i → J i ys nx → LCg.CompRest prog w A h₀ L m env elt x scope cl s S P Fin j i ys nx := by
    intro j
    induction j with
    | zero => intro i ys nx hi hl hj; obtain rfl : i = n := hi; exact LCg.CompRest.zero (fin ys nx hl hj)
    | succ j ih =>
      intro i ys nx hi hl hj
      refine LCg.CompRest.succ ?_
      intro v I oI C oC D m₂ h tk E' hv hC hx F N off ne
      have o3 := off.mem
      have off' : Off [(I, oI), (C, oC), (D, LCg.lst ys)] nx := List.forall_mem_cons.mpr ⟨fun q hq => Ne.symm (o3 q hq).1, List.forall_mem_cons.mpr ⟨fun q hq => Ne.symm (o3 q hq).2.1, List.forall_mem_cons.mpr ⟨fun q hq => Ne.symm (o3 q hq).2.2, fun _ h => nomatch h⟩⟩⟩
      refine wpAny_mono (step i v I oI C oC D m₂ ys nx h tk E' (by omega) hv hC hx F N off' ne hj) (fun y s₂ hq => ?_) fun _ _ e => e
      obtain ⟨h', tk', nx', rfl, F', N', of', hS, hj'⟩ := hq
      exact ⟨h', tk', nx', rfl, F', N', LCg.Off3.of fun q hq => ⟨Ne.symm (of' _ (.head _) q hq), Ne.symm (of' _ (.tail _ (.head _)) q hq), Ne.symm (of' _ (.tail _ (.tail _ (.head _))) q hq)⟩, hS, ih (i + 1) _ nx' (by omega) (by rw [List.length_append, hl]; rfl) hj'⟩
  exact key n 0 [] news (by omega) rfl h0
end
theorem small_upto : ∀ {n : Nat}, n ≤ 5 → Builtin.Range.small 0 (n : Int) 1 = true ∧ Builtin.Range.rangeSize 0 (n : Int) 1 = (n : Int)
  | 0, _ => by decide +kernel
  | 1, _ => by decide +kernel
  | 2, _ => by decide +kernel
  | 3, _ => by decide +kernel
  | 4, _ => by decide +kernel
  | 5, _ => by decide +kernel
  | n + 6, h => absurd h (by omega)
end VJ
end

section
open PySem PySem.W PyProof.Rows PySem.Calls PySem.Spec PySem.Builtin PySem.Builtin.Str
namespace VJ
/-! the two ways to ask whether a word stands in a text -/
theorem slice_cps (x : Str) (p q : Nat) (hp : p ≤ x.length) (hpq : p ≤ q) : (Txt.slice x (some (p : Int)) (some (q : Int))).cps.toList = (x.cps.toList.drop p).take (q - p) := by
  have hx : x.length = x.cps.toList.length := by simp [Str.length]
  have hi : strSliceIndices (some (p : Int)) (some (q : Int)) 1 x.length = (List.range (min q x.length - p)).map fun k => p + k := by
    unfold strSliceIndices sliceRange
    have h1 : (max 0 (min (if (p : Int) < 0 then (p : Int) + x.length else p) x.length)) = (p : Int) := by
      rw [if_neg (by omega)]; omega
    have h2 : (max 0 (min (if (q : Int) < 0 then (q : Int) + x.length else q) x.length)) = ((min q x.length : Nat) : Int) := by
      rw [if_neg (by omega)]; omega
    simp only [show (1 : Int) > 0 by decide, if_true]
    rw [h1, h2]
    have e : (if (p : Int) < ((min q x.length : Nat) : Int) then (((min q x.length : Nat) : Int) - p + 1 - 1) / 1 else 0).toNat = min q x.length - p := by
      split <;> (try simp only [Int.ediv_one]) <;> omega
    rw [e]
    refine List.map_congr_left fun k _ => ?_
    omega
  unfold Txt.slice
  rw [hi]
  have pk : ((List.range (min q x.length - p)).map fun k => p + k).filterMap (x.cps[·]?) = (x.cps.toList.drop p).take (min q x.length - p) := pick_run x.cps p _
  have tk : (x.cps.toList.drop p).take (min q x.length - p) = (x.cps.toList.drop p).take (q - p) := by
    rw [List.take_eq_take_iff, List.length_drop, ← hx]; omega
  split
  · rename_i h
    simp at h
    have h0 : p = 0 ∧ x.length ≤ q ∨ x.length = 0 := by omega
    rw [← tk]
    rcases h0 with ⟨rfl, h0⟩ | h0
    · rw [Nat.min_eq_right h0, List.drop_zero, List.take_of_length_le (by rw [← hx]; omega)]
    · have : x.cps.toList = [] := List.length_eq_zero_iff.mp (by rw [← hx]; exact h0)
      rw [this]; simp
  · rw [← tk, ← pk]
def atT (text : Str) (x : Str) (p : Nat) : Bool := Txt.slice text (some (p : Int)) (some ((p : Int) + x.length)) == x
theorem str_ext {x y : Str} : x = y ↔ x.cps.toList = y.cps.toList := by
  constructor
  · intro h; rw [h]
  · intro h
    cases x; cases y
    congr 1
    exact Array.ext' h
theorem atT_iff {text x : Str} {p : Nat} (hp : p ≤ text.length) : atT text x p = true ↔ (text.cps.toList.drop p).take x.length = x.cps.toList := by
  unfold atT
  rw [beq_iff_eq, str_ext]
  have e : ((p : Int) + x.length) = ((p + x.length : Nat) : Int) := by omega
  rw [e, slice_cps text p (p + x.length) hp (Nat.le_add_right _ _), Nat.add_sub_cancel_left]
theorem atT_le {text x : Str} {p : Nat} (hp : p ≤ text.length) (h : atT text x p = true) : p + x.length ≤ text.length := by
  have h1 := congrArg List.length ((atT_iff hp).mp h)
  rw [List.length_take, List.length_drop] at h1
  have hx : x.length = x.cps.toList.length := by simp [Str.length]
  have ht : text.length = text.cps.toList.length := by simp [Str.length]
  omega
theorem atT_sw {text x : Str} {p : Nat} (hp : p ≤ text.length) : Txt.startswith3 text x (p : Int) = atT text x p := by
  have hf : fromIndex text.length (p : Int) = p := by
    unfold fromIndex
    rw [if_neg (by omega)]; omega
  unfold Txt.startswith3
  rw [hf, Bool.eq_iff_iff, Bool.and_eq_true, decide_eq_true_iff, atT_iff hp, StrLaws.subAt_eq, beq_iff_eq]
  constructor
  · exact fun h => h.2
  · exact fun h => ⟨atT_le hp ((atT_iff hp).mpr h), h⟩
end VJ
end

section
open PySem PySem.W PyProof.Rows PySem.Calls PySem.Spec
namespace VJ
set_option maxRecDepth 100000
section
variable {prog : Program} {w : World} {A : Around} {E : Value → Shared → Prop} {s : Shared} {env : Env} {h₀ : Heap} {m : Str → Option Value} {news : Led1}
/-- a walk over the signs of a text whose turns make generators -/
theorem for_strG {x : Str} {px pos : Pos} {iter : PySem.Expr} {body : List Stmt} {Q : Flow → Shared → Prop} {y : Str} (J : Nat → Led1 → Array GenState → Prop) (hh : A.handled = none) (ha : y.cps.all (· < 128) = true) (hx : env.kindOf x = some .local)
    (hp : (env.scope.kind == .class || (env.scope.kind == .module && env.locals != env.globals)) = false)
    (h : wpAny (model prog w) A (eval iter env) (fun xv s₁ => ∃ tk news m, xv = .str y tk ∧ (∃ g t, s₁ = { s with heap := g, toks := t }) ∧ Fr h₀ env.locals s₁.heap m ∧ News h₀ env.locals s₁.heap news ∧ J 0 news s.gens ∧
      (∀ i c u I oI (m₁ : Str → Option Value) nx h tk gs (E' : Value → Shared → Prop), y.cps[i]? = some c → (∀ z, z ≠ x → m₁ z = m z) → J i nx gs → (∀ p ∈ nx, @Ne Nat p.1 I) → Fr h₀ env.locals h (fun z => if z = x then some (.str ⟨#[c]⟩ u) else m₁ z) → News h₀ env.locals h ((I, oI) :: nx) →
        wpAny (model prog w) A (execs body env) (fun f s₃ => f = .next ∧ ∃ h' tk' m' nx' gs', s₃ = { s with heap := h', toks := tk', gens := gs' } ∧ Fr h₀ env.locals h' m' ∧ (∀ z, z ≠ x → m' z = m z) ∧ News h₀ env.locals h' ((I, oI) :: nx') ∧ (∀ p ∈ nx', @Ne Nat p.1 I) ∧ J (i + 1) nx' gs') E' { s with heap := h, toks := tk, gens := gs }) ∧
      ∀ (m₁ : Str → Option Value) nx h tk gs, J y.cps.size nx gs → (∀ z, z ≠ x → m₁ z = m z) → Fr h₀ env.locals h m₁ → News h₀ env.locals h nx → Q .next { s with heap := h, toks := tk, gens := gs }) E s)
    (hs : ∀ x, foldedSetIterable iter env x = pure x := by intro _; rfl) (hE : PassesOwn (model prog w) A env E := by passes_own) :
    wpAny (model prog w) A (exec (.For (.Name x px) iter body [] pos) env) Q E s := by
  refine wpAny_For (wpAny_mono h (fun xv s₁ h₁ => ?_) fun _ _ e => e) hs
  obtain ⟨tk, news, m, rfl, ⟨g, t, rfl⟩, F, N, h0, turn, done⟩ := h₁
  refine wpAny_pyIter_ascii ha ?_
  dsimp only at F N ⊢
  have W := Walks.strAscii (prog := prog) (w := w) hh g.objs.size y tk
  have hst : (g.push { cls := .type "str_ascii_iterator", data := .fields #[.str y tk, .int 0 0] }).IsStrIter g.objs.size "str_ascii_iterator" y tk 0 := ⟨_, Heap.get?_push_size _ rfl, rfl, rfl⟩
  have F1 := F.push { cls := .type "str_ascii_iterator", data := .fields #[.str y tk, .int 0 0] }
  have N1 : News h₀ env.locals (g.push { cls := .type "str_ascii_iterator", data := .fields #[.str y tk, .int 0 0] }) news := fun p hp => ⟨Heap.get?_push_of_some _ (N p hp).1, (N p hp).2⟩
  have hI₀ : h₀.get? g.objs.size = none := next_is_new F
  have hLI : env.locals ≠ g.objs.size := Nat.ne_of_lt F.ns.lt
  have o1 : ∀ p ∈ news, @Ne Nat p.1 g.objs.size := fun p hp => Nat.ne_of_lt (Heap.lt_size (N p hp).1)
  generalize g.push { cls := .type "str_ascii_iterator", data := .fields #[.str y tk, .int 0 0] } = g1 at hst F1 N1 ⊢
  generalize g.objs.size = I at W hst hI₀ hLI o1 ⊢
  refine codeAny_forLoop_any
    (fun k s' => ∃ h' tk' i m' nx gs, s' = { s with heap := h', toks := tk', gens := gs } ∧ i ≤ y.cps.size ∧ k = y.cps.size + 1 - i ∧ h'.IsStrIter I "str_ascii_iterator" y tk i ∧ Fr h₀ env.locals h' m' ∧ (∀ z, z ≠ x → m' z = m z) ∧ News h₀ env.locals h' nx ∧ (∀ p ∈ nx, @Ne Nat p.1 I) ∧ J i nx gs) ?_ (y.cps.size + 1)
    ⟨g1, t, 0, m, news, s.gens, rfl, Nat.zero_le _, rfl, hst, F1, (fun _ _ => rfl), N1, o1, h0⟩
  rintro k s' ⟨h', tk', i, m', nx, gs, rfl, hi, rfl, hst', F', hm', N', o', hJ⟩
  by_cases hlt : i < y.cps.size
  · refine W.item i _ _ _ hlt hst' fun v h₂ tk₂ hPv hst₂ hk₂ => ?_
    obtain ⟨c, u, hc, rfl⟩ := hPv
    have F₂ := LCg.fr_but F' hk₂ hLI hI₀
    have N₂ := LCg.news_but N' hk₂ o'
    refine wpAny_of_eq (a := ()) (by rfl) ?_
    refine wpAny_assign_Name (wpAny_storeName_local hx F₂.ns (fun h₃ hn₃ hs₃ => ?_) hp)
    have hL₀ : h₀.get? env.locals = none := Heap.get?_none_of_le F₂.above
    have F₃ : Fr h₀ env.locals h₃ (fun z => if z = x then some (.str ⟨#[c]⟩ u) else m' z) := ⟨hn₃, fun b o e => hs₃.extBut b o (fun q => by rw [q, hL₀] at e; cases e) (F₂.keep b o e), F₂.above⟩
    obtain ⟨oI, heI, hoI⟩ := id hst₂
    have heI3 := hs₃.extBut _ _ (Ne.symm hLI) heI
    have N₃ : News h₀ env.locals h₃ ((I, oI) :: nx) := fun q hq => by
      rcases List.mem_cons.mp hq with rfl | hq
      · exact ⟨heI3, Ne.symm hLI, hI₀⟩
      · exact ⟨hs₃.extBut _ _ (N₂ q hq).2.1 (N₂ q hq).1, (N₂ q hq).2⟩
    refine wpAny_mono (turn i c u I oI m' nx h₃ _ gs _ hc hm' hJ o' F₃ N₃) (fun f s₃ h₄ => ?_) fun _ _ e => e
    obtain ⟨rfl, h₄, tk₄, m₄, nx₄, gs₄, rfl, F₄, hm₄, N₄, o₄, J₄⟩ := h₄
    exact ⟨y.cps.size + 1 - (i + 1), by omega, h₄, tk₄, i + 1, m₄, nx₄, gs₄, rfl, hlt, rfl, ⟨oI, (N₄ _ (.head _)).1, hoI⟩, F₄, hm₄, fun q hq => N₄ q (.tail _ hq), o₄, J₄⟩
  · obtain rfl : i = y.cps.size := Nat.le_antisymm hi (Nat.not_lt.mp hlt)
    refine W.done _ _ _ hst' fun h₂ tk₂ hk₂ => ?_
    refine wpAny_pure ?_
    exact done m' nx h₂ tk₂ gs hJ hm' (LCg.fr_but F' hk₂ hLI hI₀) (LCg.news_but N' hk₂ o')
end
end VJ
end

section
open PySem PySem.W PyProof.Rows PySem.Calls PySem.Spec PyProof.V
namespace VJ
set_option maxRecDepth 100000
theorem rules_exact {prog : Program} {w : World} {od : Obj} {kvs : List (Str × Value)} {X : Nat → Addr} {top : Nat → Nat} (h : od.IsDictOf (PySem.strKind prog w) kvs) (hk : kvs = (List.range 3).map fun k => (nameOf k, Value.ref (X (top k)))) :
    ∃ t0 t1 t2 n, od = rulesObj w (X (top 0)) (X (top 1)) (X (top 2)) t0 t1 t2 n := by
  obtain ⟨es, ep, ⟨hc, hd, hs⟩, hdat, hko, hp, _⟩ := h
  subst hk
  have hp' : PySem.Pairs (PySem.strKind prog w) es.toList [(nameOf 0, Value.ref (X (top 0))), (nameOf 1, Value.ref (X (top 1))), (nameOf 2, Value.ref (X (top 2)))] := hp
  have key : ∀ e ∈ es, ∀ x v, (PySem.strKind prog w).is x e.key = true → e.val = v → ∃ t, e = ⟨PyData.keyHash w.params x, .str x t, v⟩ := by
    intro e he x v h1 h2
    obtain ⟨k, hk1, hk2⟩ := hko e he
    obtain rfl := (PySem.strKind prog w).inj _ _ _ hk1 h1
    obtain ⟨t, ht⟩ := Value.isStrOf_shape h1
    refine ⟨t, ?_⟩
    cases e
    dsimp only at hk2 h2 ht
    subst h2
    rw [hk2, ht]
    rfl
  obtain ⟨c, d, dt, sl⟩ := od
  dsimp only at hc hd hs hdat
  subst hc hd hs hdat
  have hes : es = ⟨es.toList⟩ := rfl
  generalize es.toList = l at hp' hes
  subst hes
  cases hp' with
  | cons a0 b0 hp1 =>
    cases hp1 with
    | cons a1 b1 hp2 =>
      cases hp2 with
      | cons a2 b2 hp3 =>
        cases hp3 with
        | nil =>
          rename_i e0 e1 e2
          obtain ⟨t0, rfl⟩ := key e0 (by simp) _ _ a0 b0
          obtain ⟨t1, rfl⟩ := key e1 (by simp) _ _ a1 b1
          obtain ⟨t2, rfl⟩ := key e2 (by simp) _ _ a2 b2
          exact ⟨t0, t1, t2, ep, rfl⟩
theorem led_one {h₀ h : Heap} {L : Addr} {news : Led1} (N : News h₀ L h news) {a : Addr} {o o' : Obj} (h1 : (a, o) ∈ news) (h2 : (a, o') ∈ news) : o = o' := Option.some.inj ((N _ h1).1.symm.trans (N _ h2).1)
section
variable {w : World} {news : Led1} {pv : List Value} {E : Nat → Ent} {T X D XR : Nat → Addr} {top lo : Nat → Nat} {kvs : List (Str × Value)} {rm pl : Addr} {n : Nat} {h₀ h : Heap} {L : Addr}
def isT (T : Nat → Addr) (n : Nat) (a : Addr) : Bool := (List.range n).any fun k => decide (@Eq Nat a (T k))
theorem isT_iff {a : Addr} : isT T n a = true ↔ ∃ k, k < n ∧ a = T k := by
  unfold isT
  simp [List.any_eq_true]
abbrev tupsOf (T : Nat → Addr) (n : Nat) (news : Led1) : Led1 := news.filter fun q => isT T n q.1
abbrev pcsOf (T : Nat → Addr) (n : Nat) (rm : Addr) (news : Led1) : Led1 := news.filter fun q => !isT T n q.1 && decide (@Ne Nat q.1 389) && decide (@Ne Nat q.1 rm)
theorem Ent.Is.ex {e : Ent} {a : Addr} (h : e.Is news a) : ∃ o, (a, o) ∈ news ∧ o.cls = .type "tuple" ∧ ∃ xs n, o.data = .seq xs n ∧ xs.size = 5 := by
  cases e <;> (unfold Ent.Is at h; first | (obtain ⟨t1, t2, t3, t4, t5, n, h⟩ := h; exact ⟨_, h, rfl, _, _, rfl, rfl⟩) | (obtain ⟨t1, t2, t3, t5, n, h⟩ := h; exact ⟨_, h, rfl, _, _, rfl, rfl⟩))
theorem MStat.shrink {P : Nat → Ask} {ks : List Nat} {news' : Led1} (S : MStat news X D P ks 0) (hD : ∀ k ∈ ks, ∃ n, (D k, dictOf [] n) ∈ news) (g : ∀ q ∈ news, (q.2.data = .plain ∨ (∃ xs n, q.2.data = .seq xs n ∧ xs.size ≤ 2) ∨ ∃ n, q.2 = dictOf [] n) → q ∈ news') : MStat news' X D P ks 0 where
  expr k hk := by
    obtain ⟨sl, nm, hn, hm, r⟩ := S.expr k hk
    refine ⟨sl, nm, hn, g _ hm (.inl rfl), ?_⟩
    have tg : ∀ {M : Addr} {vs : List Value} {m : Nat}, vs.length ≤ 2 → (M, tupO vs m) ∈ news → (M, tupO vs m) ∈ news' := fun hv hm => g _ hm (.inr (.inl ⟨_, _, rfl, by simpa using hv⟩))
    generalize P k = a at r
    cases a with
    | word x => exact r
    | chain o o2 => obtain ⟨M, n, i, t, e, hm⟩ := r; exact ⟨M, n, i, t, e, tg (by simp) hm⟩
    | choice o o2 => obtain ⟨M, n, i, t, e, hm⟩ := r; exact ⟨M, n, i, t, e, tg (by simp) hm⟩
    | look o g => obtain ⟨M, n, i, t, e, hm⟩ := r; exact ⟨M, n, i, t, e, tg (by simp) hm⟩
    | many o l m => obtain ⟨hl, M, n, i, t, mx, tl, e, hm, r⟩ := r; exact ⟨hl, M, n, i, t, mx, tl, e, tg (by simp) hm, r⟩
  oid k hk := let ⟨n, hm⟩ := hD k hk; ⟨[], .inl ⟨rfl, n, g _ hm (.inr (.inr ⟨n, rfl⟩))⟩, (fun _ h => nomatch h), Nat.le_refl _⟩
  nodup := S.nodup
/-- the ledger behind the resolution, parted: the plans' tuples; the pieces -/
theorem parts (N : News h₀ L h news) (hT : ∀ k, k < n → (E k).Is news (T k)) {ps : Array Value} (h9 : (((389 : Nat), tabObj ps) : Addr × Obj) ∈ news) {A0 A1 A2 : Addr} {t0 t1 t2 : Tok} {m : Nat} (hr : (rm, rulesObj w A0 A1 A2 t0 t1 t2 m) ∈ news) (hD : ∀ k, 3 ≤ k → k < n → (D k, dictOf [] 0) ∈ news)
    {P : Nat → Ask} {ks : List Nat} {D' X' : Nat → Addr} (hks : ∀ k ∈ ks, ∃ j, 3 ≤ j ∧ j < n ∧ D' k = D j) (S : MStat news X' D' P ks 0) :
    (∀ k, k < n → (E k).Is (tupsOf T n news) (T k)) ∧ MStat (pcsOf T n rm news) X' D' P ks 0 ∧ Off (tupsOf T n news) (pcsOf T n rm news) ∧ (∀ q ∈ tupsOf T n news, @Ne Nat q.1 389 ∧ @Ne Nat q.1 rm) ∧ ∀ q ∈ pcsOf T n rm news, @Ne Nat q.1 389 ∧ @Ne Nat q.1 rm := by
  have tup : ∀ q ∈ news, isT T n q.1 = true → q.2.cls = .type "tuple" ∧ ∃ xs n, q.2.data = .seq xs n ∧ xs.size = 5 := fun q hq z => by
    obtain ⟨k, hk, e⟩ := isT_iff.mp z
    obtain ⟨o, ho, hc, hd⟩ := (hT k hk).ex
    have : q.2 = o := led_one N (a := T k) (by rw [← e]; exact hq) ho
    rw [this]; exact ⟨hc, hd⟩
  have pm : ∀ {q : Addr × Obj}, q ∈ pcsOf T n rm news ↔ q ∈ news ∧ isT T n q.1 = false ∧ @Ne Nat q.1 389 ∧ @Ne Nat q.1 rm := fun {q} => by
    rw [List.mem_filter, Bool.and_eq_true, Bool.and_eq_true, Bool.not_eq_true', decide_eq_true_iff, decide_eq_true_iff, and_assoc]
  refine ⟨fun k hk => (hT k hk).mono fun q hq e => List.mem_filter.mpr ⟨hq, isT_iff.mpr ⟨k, hk, e⟩⟩, ?_, fun p hp q hq e => ?_, fun q hq => ?_, fun q hq => (pm.mp hq).2.2⟩
  · refine S.shrink (fun k hk => let ⟨j, a, b, e⟩ := hks k hk; ⟨0, by rw [e]; exact hD j a b⟩) fun q hq c => pm.mpr ⟨hq, ?_, fun e => ?_, fun e => ?_⟩
    · cases z : isT T n q.1 with
      | false => rfl
      | true =>
        obtain ⟨h1, xs, k, h2, h3⟩ := tup q hq z
        rcases c with c | ⟨ys, j, c, c'⟩ | ⟨j, c⟩
        · rw [c] at h2; cases h2
        · rw [c] at h2
          injection h2 with h2 _
          rw [h2] at c'; omega
        · rw [c] at h2; cases h2
    · have : q.2 = tabObj ps := led_one N (a := (389 : Nat)) (by rw [← e]; exact hq) h9
      rw [this] at c
      rcases c with c | ⟨ys, j, c, c'⟩ | ⟨j, c⟩
      · cases c
      · cases c
      · have := congrArg Obj.data c; cases this
    · have : q.2 = _ := led_one N (a := rm) (by rw [← e]; exact hq) hr
      rw [this] at c
      rcases c with c | ⟨ys, j, c, c'⟩ | ⟨j, c⟩
      · cases c
      · cases c
      · have := congrArg Obj.data c
        injection this with c _
        have := congrArg Array.size c
        simp at this
  · have h1 := (List.mem_filter.mp hp).2
    have h2 := (pm.mp hq).2.1
    have e' : p.1 = q.1 := e
    rw [e', h2] at h1; cases h1
  · obtain ⟨h1, h2⟩ := List.mem_filter.mp hq
    obtain ⟨hc, xs, k, hd, hs⟩ := tup q h1 h2
    refine ⟨fun e => ?_, fun e => ?_⟩
    · have : q.2 = tabObj ps := led_one N (a := (389 : Nat)) (by rw [← e]; exact h1) h9
      rw [this] at hc; cases hc
    · have : q.2 = _ := led_one N (a := rm) (by rw [← e]; exact h1) hr
      rw [this] at hd; cases hd
end
theorem name_sign : ∀ {i c : Nat}, (Str.ofString "pqr").cps[i]? = some c → i < 3 ∧ (⟨#[c]⟩ : Str) = nameOf i := by
  have key : ∀ i : Fin 3, (Str.ofString "pqr").cps[i.val]? = some ((nameOf i.val).cps.getD 0 0) ∧ (⟨#[(nameOf i.val).cps.getD 0 0]⟩ : Str) = nameOf i.val := by decide +kernel
  have hsz : (Str.ofString "pqr").cps.size = 3 := by decide +kernel
  intro i c h
  have hi : i < 3 := by rw [← hsz]; exact (Array.getElem?_eq_some_iff.mp h).1
  obtain ⟨h1, h2⟩ := key ⟨i, hi⟩
  dsimp only at h1 h2
  rw [h1] at h
  cases h
  exact ⟨hi, h2⟩
theorem valueAt_rules {X : Nat → Addr} {top : Nat → Nat} {i : Nat} (hi : i < 3) : valueAt ((List.range 3).map fun k => (nameOf k, Value.ref (X (top k)))) (nameOf i) = some (.ref (X (top i))) := by
  have n01 : nameOf 0 ≠ nameOf 1 := by decide +kernel
  have n02 : nameOf 0 ≠ nameOf 2 := by decide +kernel
  have n12 : nameOf 1 ≠ nameOf 2 := by decide +kernel
  have e : ((List.range 3).map fun k => (nameOf k, Value.ref (X (top k)))) = [(nameOf 0, Value.ref (X (top 0))), (nameOf 1, Value.ref (X (top 1))), (nameOf 2, Value.ref (X (top 2)))] := rfl
  rw [e]
  unfold valueAt
  rcases (show i = 0 ∨ i = 1 ∨ i = 2 by omega) with rfl | rfl | rfl
  · simp
  · simp [n01]
  · simp [n02, n12]
theorem rules_isdict {prog : Program} {w : World} {X : Nat → Addr} {top : Nat → Nat} {t0 t1 t2 : Tok} {n : Nat} : (rulesObj w (X (top 0)) (X (top 1)) (X (top 2)) t0 t1 t2 n).IsDictOf (PySem.strKind prog w) ((List.range 3).map fun k => (nameOf k, Value.ref (X (top k)))) := by
  have n01 : nameOf 0 ≠ nameOf 1 := by decide +kernel
  have n02 : nameOf 0 ≠ nameOf 2 := by decide +kernel
  have n12 : nameOf 1 ≠ nameOf 2 := by decide +kernel
  refine ⟨_, _, ⟨rfl, rfl, rfl⟩, rfl, fun e he => ?_, ?_, ?_⟩
  · simp only [List.mem_toArray, List.mem_cons, List.not_mem_nil, or_false] at he
    rcases he with rfl | rfl | rfl
    · exact ⟨_, strKind_is _ _ _ _, rfl⟩
    · exact ⟨_, strKind_is _ _ _ _, rfl⟩
    · exact ⟨_, strKind_is _ _ _ _, rfl⟩
  · exact .cons (strKind_is _ _ _ _) rfl (.cons (strKind_is _ _ _ _) rfl (.cons (strKind_is _ _ _ _) rfl .nil))
  · show [nameOf 0, nameOf 1, nameOf 2].Nodup
    simp [n01, n02, n12]
theorem two_cls {e : Ent} (h : TwoE e) : (clsE e = 451 ∨ clsE e = 425) ∧ fnE e = 394 ∧ ((clsE e = (367 : Nat) ∧ (394 : Nat) = (274 : Nat)) ∨ (clsE e = (425 : Nat) ∧ (394 : Nat) = (394 : Nat)) ∨ (clsE e = (451 : Nat) ∧ (394 : Nat) = (394 : Nat)) ∨ (clsE e = (489 : Nat) ∧ (394 : Nat) = (394 : Nat)) ∨ (clsE e = (528 : Nat) ∧ (394 : Nat) = (394 : Nat))) := by
  cases e with
  | choice a b => exact ⟨.inl rfl, rfl, .inr (.inr (.inl ⟨rfl, rfl⟩))⟩
  | chain a b => exact ⟨.inr rfl, rfl, .inr (.inl ⟨rfl, rfl⟩)⟩
  | _ => exact h.elim
/-- the ledger while the rules are resolved -/
def JR (w : World) (xs0 : Led1) (rm : Addr) (n : Nat) (E : Nat → Ent) (T X D : Nat → Addr) (top : Nat → Nat) (g0 : Array GenState) (c : Nat) (nx : Led1) (gs : Array GenState) : Prop :=
  ∃ nx2 S, nx = xs0 ++ nx2 ∧ Off xs0 nx2 ∧ RS w nx2 rm n E X (xrOf X top) D S ∧ (∀ k, k < n → (E k).Is nx2 (T k)) ∧ (∀ j, j < c → top j ∈ S) ∧ (∀ j ∈ S, ∃ i, i < c ∧ j ≤ top i) ∧ GensOk g0 gs
section
variable {w : World} {rest nx2 nx3 xs0 : Led1} {pv : List Value} {E : Nat → Ent} {T X D : Nat → Addr} {top lo : Nat → Nat} {kvs : List (Str × Value)} {rm : Addr} {h : Heap} {h₀ : Heap} {L : Addr} {g0 gs gs2 : Array GenState} {S : List Nat} {r : Value}
theorem LS.tups (hLS : LS rest 3 pv E T X D top lo kvs) (sub : ∀ q ∈ rest, q ∈ nx2) : ∀ k, k < pv.length → (E k).Is nx2 (T k) := fun k hk => by
  by_cases h3 : k < 3
  · exact (hLS.low k h3).2.2.mono fun q hq _ => sub q hq
  · exact (hLS.obj.ent k (by omega) hk).mono fun q hq _ => sub q hq
theorem JR.pre (hLS : LS rest 3 pv E T X D top lo kvs) {c : Nat} (hc : c < 3) (hS : ∀ j ∈ S, ∃ i, i < c ∧ j ≤ top i) : ∀ j ∈ S, j < lo (top c) ∨ top c < j := fun j hj => by
  obtain ⟨i, hi, hji⟩ := hS j hj
  have h1 := hLS.ord i c hi hc
  have h2 := hLS.sep i (top c) (by omega) h1 (hLS.tops c hc).2.1
  omega
theorem JR.turn (hLS : LS rest 3 pv E T X D top lo kvs) {c : Nat} (hc : c < 3) (N : News h₀ L h nx2) (R : RS w nx2 rm pv.length E X (xrOf X top) D S) (hT : ∀ k, k < pv.length → (E k).Is nx2 (T k)) (htop : ∀ j, j < c → top j ∈ S) (hS : ∀ j ∈ S, ∃ i, i < c ∧ j ≤ top i) (hg : GensOk g0 gs) (hg2 : GensOk gs gs2) (off : Off xs0 nx3)
    (hr : ResRet w rm pv.length E X (xrOf X top) D lo (top c) S nx2 r nx3) : JR w xs0 rm pv.length E T X D top g0 (c + 1) (xs0 ++ nx3) gs2 := by
  obtain ⟨_, kp, S', R', h1, h2, h3⟩ := hr
  have tc := hLS.tops c hc
  refine ⟨nx3, S', rfl, off, R', fun k hk => (hT k hk).mono fun q hq e => kp q hq (fun vs z => ?_) fun j hj hj2 e2 => ?_, fun j hj => ?_, fun j hj => ?_, hg.trans hg2⟩
  · obtain ⟨o, ho, _, xs, m, hd, _⟩ := (hT k hk).ex
    have : q.2 = o := led_one N (a := T k) (by rw [← e]; exact hq) ho
    rw [this, hd] at z; cases z
  · obtain ⟨o, ho, hcl, _⟩ := (hT k hk).ex
    have : q.2 = o := led_one N (a := T k) (by rw [← e]; exact hq) ho
    have l3 : 3 ≤ j := by have := (hLS.tree (top c) tc.1 tc.2.1).1; omega
    obtain ⟨⟨sl, hm⟩, _⟩ := R.at (fun k h => if_neg (by omega)) l3 (by omega : j < pv.length)
    have := led_one N (a := X j) hm (by rw [← e2]; exact hq)
    rw [‹q.2 = o›] at this
    rw [← this] at hcl; cases hcl
  · by_cases e : j = c
    · subst e; exact h1
    · exact h2 _ (htop j (by omega))
  · rcases h3 j hj with h | h
    · obtain ⟨i, hi, hji⟩ := hS j h
      exact ⟨i, by omega, hji⟩
    · exact ⟨c, by omega, h.2⟩
end
def dueAt (p2 m : Nat) : Nat := if m < 3 then 0 else p2
/-- the told ends so far -/
def DueIs (P : Nat → Ask) (at_ : Str → Nat → Bool) (len p2 : Nat) (ys : List Value) : Prop := ∀ m v, ys[m]? = some v → ∃ x t mm', v = .int x t ∧ R P at_ len (fun _ _ => none) (.rd (m % 3) (dueAt p2 m)) x mm'
theorem DueIs.snoc {P : Nat → Ask} {at_ : Str → Nat → Bool} {len p2 i j p : Nat} {ys : List Value} {x : Int} {t : Tok} {mm' : Memo} (h : DueIs P at_ len p2 ys) (hl : ys.length = 3 * i + j) (hj : j < 3) (hp : p = dueAt p2 (3 * i)) (r : R P at_ len (fun _ _ => none) (.rd j p) x mm') : DueIs P at_ len p2 (ys ++ [.int x t]) := by
  intro m v e
  by_cases hm : m < ys.length
  · rw [List.getElem?_append_left hm] at e
    exact h m v e
  · rw [List.getElem?_append_right (by omega)] at e
    have : m = ys.length := by
      have := (List.getElem?_eq_some_iff.mp e).1
      simp at this; omega
    subst this
    rw [Nat.sub_self] at e
    cases e
    refine ⟨x, t, mm', rfl, ?_⟩
    have e1 : ys.length % 3 = j := by omega
    have e2 : dueAt p2 ys.length = p := by
      rw [hp]; unfold dueAt
      by_cases hi : i = 0
      · rw [if_pos (by omega), if_pos (by omega)]
      · rw [if_neg (by omega), if_neg (by omega)]
    rw [e1, e2]
    exact r
/-- two such tellings say the same -/
theorem DueIs.same {P : Nat → Ask} {at_ : Str → Nat → Bool} {len p2 : Nat} {ys zs : List Value} (h : DueIs P at_ len p2 ys) (h' : DueIs P at_ len p2 zs) (e : ys.length = zs.length) : ∃ xs, IntsAre ys xs ∧ IntsAre zs xs := by
  have key : ∀ (l1 l2 : List Value), l1.length = l2.length → (∀ (m : Nat) v v', l1[m]? = some v → l2[m]? = some v' → ∃ (x : Int) (t t' : Tok), v = Value.int x t ∧ v' = Value.int x t') → ∃ xs, IntsAre l1 xs ∧ IntsAre l2 xs := by
    intro l1
    induction l1 with
    | nil => intro l2 hl _; obtain rfl := List.length_eq_zero_iff.mp hl.symm; exact ⟨[], .nil, .nil⟩
    | cons a l ih =>
      intro l2 hl hk
      cases l2 with
      | nil => cases hl
      | cons b l' =>
        obtain ⟨x, t, t', rfl, rfl⟩ := hk 0 a b rfl rfl
        obtain ⟨xs, i1, i2⟩ := ih l' (by simpa using hl) fun m v v' q q' => hk (m + 1) v v' (by simpa using q) (by simpa using q')
        exact ⟨x :: xs, .cons x t i1, .cons x t' i2⟩
  refine key ys zs e fun m v v' q q' => ?_
  obtain ⟨x, t, mm, rfl, r⟩ := h m v q
  obtain ⟨x', t', mm', rfl, r'⟩ := h' m v' q'
  obtain ⟨rfl, _⟩ := r.det r'
  exact ⟨x, t, t', rfl, rfl⟩
def JD (xsR : Led1) (pl : Addr) (n : Nat) (E : Nat → Ent) (T : Nat → Addr) (P : Nat → Ask) (at_ : Str → Nat → Bool) (len p2 : Nat) (i j : Nat) (ys : List Value) (nx : Led1) : Prop :=
  ∃ nx3, nx = xsR ++ nx3 ∧ Off xsR nx3 ∧ PStat nx3 pl n E T ∧ ys.length = 3 * i + j ∧ DueIs P at_ len p2 ys
def JMt (xsT : Led1) (X D : Nat → Addr) (P : Nat → Ask) (ks : List Nat) (at_ : Str → Nat → Bool) (len p2 : Nat) (i j : Nat) (ys : List Value) (nx : Led1) : Prop :=
  ∃ nx3, nx = xsT ++ nx3 ∧ Off xsT nx3 ∧ MStat nx3 X D P ks (3 * i + j) ∧ ys.length = 3 * i + j ∧ DueIs P at_ len p2 ys
theorem its_two {t0 t1 : Tok} {p2 i : Nat} {v : Value} (h : (#[Value.int 0 t0, Value.int (p2 : Nat) t1] : Array Value)[i]? = some v) : i < 2 ∧ ∃ t, v = .int (dueAt p2 (3 * i) : Nat) t := by
  have hi : i < 2 := (Array.getElem?_eq_some_iff.mp h).1
  refine ⟨hi, ?_⟩
  rcases (show i = 0 ∨ i = 1 by omega) with rfl | rfl
  · cases h; exact ⟨_, rfl⟩
  · cases h; exact ⟨_, rfl⟩
end VJ
end

section
open PySem PySem.W PyProof.Rows PySem.Calls PySem.Spec PyProof.V
namespace VJ
set_option maxRecDepth 100000
theorem fillQ5 : K9 = K9 ∧ PySem.Challenge.rw_vj0024_01 = PySem.Challenge.rw_vj0024_01 := by
  k_fill
  exact ⟨rfl, rfl⟩
local macro_rules | `(tactic| k_mem) => `(tactic| (refine list_mem_of ?_; ktr_member))
local macro_rules | `(tactic| k_all) => `(tactic| assumption)
local macro_rules | `(tactic| k_room) => `(tactic| first | omega | (simp only [depth_under_make, depth_under_kw, depth_in1, depth_deeper]; omega))
local macro_rules | `(tactic| walk_at "call ref") => `(tactic| ((with_reducible show wpAny _ _ (call (Value.ref 243) _ _) _ _ _); k_dflt ((try dsimp only); refine halt_of ?_)))
local macro_rules | `(tactic| walk_at "call ref") => `(tactic| ((with_reducible show wpAny _ _ (call (Value.ref 297) _ _) _ _ _); k_dflt ((try dsimp only); refine halt_of ?_)))
local macro_rules | `(tactic| walk_at "getMethod ref") => `(tactic| ((with_reducible show wpAny _ _ (getMethod (Value.ref _) (Str.ofString "match_core") _) _ _ _); k_dflt ((try dsimp only); refine halt_of ?_)))
local macro_rules | `(tactic| walk_at "exec For Name Attribute cons nil") => `(tactic| (k_dflt ((try dsimp only); refine halt_of ?_)))
section
variable {prog : Program} {w : World} {X D : Nat → Addr} {P : Nat → Ask} {ks : List Nat} {n len B : Nat} {cd er dE : Addr} {at_ : Str → Nat → Bool} {text : Str}
set_option maxHeartbeats 4000000 in
theorem um_choice {N k o o2 : Nat} (hP : P k = .choice o o2) (C : CoreC prog w X D P ks n len B cd er dE at_ text N) (hat : ∀ x p, p ≤ len → at_ x p = true → p + x.length ≤ len) (ho : o ∈ ks) (ho2 : o2 ∈ ks) (hlen : text.length = len) (hl5 : len ≤ 5) {mm : Memo} {cs : List (Nat × Addr)} {p : Nat} {t2 t3 : Tok} {news : Led1} (hk : k ∈ ks) (hp : p ≤ len) (hg : Good len mm) (hl : left n len mm ≤ N) (M : MInv prog w news X D P ks len B cd er dE mm cs) :
    Told prog w 441 [.ref (X k), .str text t2, .int p t3, .ref cd, .ref er] (2 * N + 111) (32 * N + 1016) news
      (fun r news' => ∃ v mm' cs', v ≠ -2 ∧ ((∀ a ∈ cs, a ∈ cs') ∧ Stay news news') ∧ ResIs news' r v p ∧ R P at_ len mm (.as k p) v mm' ∧ MInv prog w news' X D P ks len B cd er dE mm' cs')
      (fun news' => (∃ mm', R P at_ len mm (.as k p) (-2) mm') ∧ ∃ mm' cs', MInv prog w news' X D P ks len B cd er dE mm' cs') := by
  refine told_def (by k_is) (by k_is) (by omega) (fun _ _ => BindsTo.of_eq rfl) (locs rfl) ?_
  intro dp un gd env outer base G pp loose mean mg mb s L h₁ tk hd hu F N' hlt Bl Xg TT
  (try dsimp only)
  k_fold
  have hrl : recursionLimit = 1000 := rfl
  have hcl : cLine = 9900 := rfl
  obtain ⟨sl, nm, hnm, hX, hSl⟩ := M.expr k hk
  obtain ⟨ps, hO, _⟩ := M.oid k hk
  obtain ⟨oD, hD⟩ := hO.mem
  rw [hP] at hX hSl
  obtain ⟨T, nT, idt, tn, rfl, hT⟩ := hSl
  simp only [Ask.cls] at hX
  k_steps
  unfold Halt
  rename Fr _ _ _ _ => F1
  refine for_tup F1 rfl ?_
  k_steps
  rename Fr _ _ _ _ => F2
  rename News _ _ _ _ => N2
  refine ⟨T, _, [.ref (X o), .ref (X o2)], nT, _, _, rfl, rfl, rfl, hT, F2, N2, ?_⟩
  try clear F1
  clear F2 N2
  intro h4 tk4 J oJ hJ F4 N4
  k_steps
  unfold Halt
  rename News _ _ _ _ => N5
  rename Fr _ _ _ _ => F5
  refine mc_M M ho F5 Xg N5 (fun _ h => .tail _ h) ?_
  dsimp only
  k_steps
  unfold Halt
  rename News _ _ _ _ => N6
  rename Fr _ _ _ _ => F6
  refine told_use (xs := [(J, oJ)]) (C mm cs o p _ _ news ho hp hg hl M) Bl F6 Xg N6 TT rfl rfl rfl rfl (by simp only [depth_deeper]; omega) (by simp only [units_deeper]; omega) (fun q hq r hr e => hJ r hr (by rw [List.mem_singleton.mp hq] at e; exact e.symm)) ?_ ?_
  · rintro r news4 h7 tk7 F7 N7 hJ7 ⟨v, mm', cs', hv2, hcs, hres, hR, M4⟩
    try clear F5
    try clear N5
    try clear F6
    try clear N6
    have hg4 := (hR.good hat hg hp).1
    have hl4 : left n len mm' ≤ N := Nat.le_trans (left_mono hR.grow) hl
    rcases hres with ⟨rfl, rfl⟩ | ⟨q, nd, rfl, rfl, hnd⟩
    · k_steps
      all_goals (try dsimp only [TurnBack])
      rename Fr _ _ _ _ => F8
      rename News _ _ _ _ => N8
      refine ⟨_, _, _, news4, rfl, F8, N8, fun p hp q hq => (hJ7 q hq p hp).symm, hcs.2 _ hT tup_ne_dict, ?_⟩
      clear F8 N8
      intro h14 tk14 J2 oJ2 hJ2 F14 N14
      k_steps
      unfold Halt
      rename News _ _ _ _ => N5
      rename Fr _ _ _ _ => F5
      refine mc_M M4 ho2 F5 Xg N5 (fun _ h => .tail _ h) ?_
      dsimp only
      k_steps
      unfold Halt
      rename News _ _ _ _ => N6
      rename Fr _ _ _ _ => F6
      refine told_use (xs := [(J2, oJ2)]) (C mm' cs' o2 p _ _ news4 ho2 hp hg4 hl4 M4) Bl F6 Xg N6 TT rfl rfl rfl rfl (by simp only [depth_deeper]; omega) (by simp only [units_deeper]; omega) (fun q hq r hr e => hJ2 r hr (by rw [List.mem_singleton.mp hq] at e; exact e.symm)) ?_ ?_
      · rintro r news5 h7 tk7 F7 N7 hJ7' ⟨v, mm2, cs2, hv2', hcs', hres, hR2, M5⟩
        try clear F5
        try clear N5
        try clear F6
        try clear N6
        rcases hres with ⟨rfl, rfl⟩ | ⟨q, nd, rfl, rfl, hnd⟩
        · k_steps
          all_goals (try dsimp only [TurnBack])
          rename Fr _ _ _ _ => F8
          rename News _ _ _ _ => N8
          refine ⟨_, _, _, news5, rfl, F8, N8, fun p hp q hq => (hJ7' q hq p hp).symm, hcs'.2 _ (hcs.2 _ hT tup_ne_dict) tup_ne_dict, ?_⟩
          clear F8 N8
          intro h15 tk15 F15 N15
          k_steps
          all_goals (try dsimp only)
          rename Fr _ _ _ _ => F8
          rename News _ _ _ _ => N8
          exact back_of F8 N8 ⟨-1, _, _, by decide, ⟨fun a ha => hcs'.1 _ (hcs.1 _ ha), fun q hq hc => hcs'.2 _ (hcs.2 _ hq hc) hc⟩, .inl ⟨rfl, rfl⟩, .choice2 hP hR hR2, M5⟩
        · obtain ⟨d5, c5, ex5, x5, t5, l15, l25, hnm5, oD5, hD5⟩ := id hnd
          k_steps
          unfold Halt
          rename News _ _ _ _ => N9
          rename Fr _ _ _ _ => F9
          refine node_K (xn3 (y := .ref nd) (n := 0) (Xg.keeps F9.keep) (N9 _ (.head _)).1) F9 N9 rfl (by simp only [depth_deeper]; omega) (by simp only [units_deeper]; omega) fun a9 h9 tk9 news9 F10 N10 s10 hnd9 => ?_
          clear F9 N9
          k_steps
          all_goals (try dsimp only [TurnBack])
          all_goals (try dsimp only)
          exact back_of F10 N10 ⟨q, _, _, by omega, ⟨fun a ha => hcs'.1 _ (hcs.1 _ ha), fun q hq hc => s10 _ (.tail _ (.tail _ (hcs'.2 _ (hcs.2 _ hq hc) hc)))⟩, .inr ⟨q, a9, rfl, rfl, hnd9⟩, .choice2 hP hR hR2, M5.sup fun q hq => s10 _ (.tail _ (.tail _ hq))⟩
      · rintro er1 t1 us1 news10 g10 h10 tk10 F10 R10 U10 ⟨⟨mm2, hR2⟩, hM⟩
        exact leave_onS Bl F10 R10 U10 fun h11 R11 _ U11 => oops_of R11 U11 ⟨⟨_, .choice2 hP hR hR2⟩, hM⟩
    · obtain ⟨d5, c5, ex5, x5, t5, l15, l25, hnm5, oD5, hD5⟩ := id hnd
      k_steps
      unfold Halt
      rename News _ _ _ _ => N9
      rename Fr _ _ _ _ => F9
      refine node_K (xn3 (y := .ref nd) (n := 0) (Xg.keeps F9.keep) (N9 _ (.head _)).1) F9 N9 rfl (by simp only [depth_deeper]; omega) (by simp only [units_deeper]; omega) fun a9 h9 tk9 news9 F10 N10 s10 hnd9 => ?_
      clear F9 N9
      k_steps
      all_goals (try dsimp only [TurnBack])
      all_goals (try dsimp only)
      exact back_of F10 N10 ⟨q, _, _, by omega, ⟨hcs.1, fun q hq hc => s10 _ (.tail _ (.tail _ (hcs.2 _ hq hc)))⟩, .inr ⟨q, a9, rfl, rfl, hnd9⟩, .choice1 hP hR (by omega), M4.sup fun q hq => s10 _ (.tail _ (.tail _ hq))⟩
  · rintro er1 t1 us1 news10 g10 h10 tk10 F10 R10 U10 ⟨⟨mm', hR⟩, hM⟩
    exact leave_onS Bl F10 R10 U10 fun h11 R11 _ U11 => oops_of R11 U11 ⟨⟨_, .choice1 hP hR (by decide)⟩, hM⟩
end
end VJ
end

section
open PySem PySem.W PyProof.Rows PySem.Calls PySem.Spec PyProof.V
namespace VJ
set_option maxRecDepth 100000
theorem fillQ6 : K9 = K9 ∧ PySem.Challenge.rw_vj0024_01 = PySem.Challenge.rw_vj0024_01 := by
  k_fill
  exact ⟨rfl, rfl⟩
local macro_rules | `(tactic| k_mem) => `(tactic| (refine list_mem_of ?_; ktr_member))
local macro_rules | `(tactic| k_all) => `(tactic| assumption)
local macro_rules | `(tactic| k_room) => `(tactic| first | omega | (simp only [depth_under_make, depth_under_kw, depth_in1, depth_deeper]; omega))
local macro_rules | `(tactic| walk_at "pad 1") => `(tactic| fail)
local macro_rules | `(tactic| walk_at "call ref") => `(tactic| ((with_reducible show wpAny _ _ (call (Value.ref 243) _ _) _ _ _); k_dflt ((try dsimp only); refine halt_of ?_)))
local macro_rules | `(tactic| walk_at "call ref") => `(tactic| ((with_reducible show wpAny _ _ (call (Value.ref 297) _ _) _ _ _); k_dflt ((try dsimp only); refine halt_of ?_)))
local macro_rules | `(tactic| walk_at "getMethod ref") => `(tactic| ((with_reducible show wpAny _ _ (getMethod (Value.ref _) (Str.ofString "match_core") _) _ _ _); k_dflt ((try dsimp only); refine halt_of ?_)))
local macro_rules | `(tactic| walk_at "exec For Name Attribute cons nil") => `(tactic| (k_dflt ((try dsimp only); refine halt_of ?_)))
local macro_rules | `(tactic| k_ne) => `(tactic| (first | assumption | exact Ne.symm (by assumption)))
section
variable {prog : Program} {w : World} {X D : Nat → Addr} {P : Nat → Ask} {ks : List Nat} {n len B : Nat} {cd er dE : Addr} {at_ : Str → Nat → Bool} {text : Str}
set_option maxHeartbeats 4000000 in
theorem um_chain {N k o o2 : Nat} (hP : P k = .chain o o2) (C : CoreC prog w X D P ks n len B cd er dE at_ text N) (hat : ∀ x p, p ≤ len → at_ x p = true → p + x.length ≤ len) (ho : o ∈ ks) (ho2 : o2 ∈ ks) (hlen : text.length = len) (hl5 : len ≤ 5) {mm : Memo} {cs : List (Nat × Addr)} {p : Nat} {t2 t3 : Tok} {news : Led1} (hk : k ∈ ks) (hp : p ≤ len) (hg : Good len mm) (hl : left n len mm ≤ N) (M : MInv prog w news X D P ks len B cd er dE mm cs) :
    Told prog w 415 [.ref (X k), .str text t2, .int p t3, .ref cd, .ref er] (2 * N + 111) (32 * N + 1016) news
      (fun r news' => ∃ v mm' cs', v ≠ -2 ∧ ((∀ a ∈ cs, a ∈ cs') ∧ Stay news news') ∧ ResIs news' r v p ∧ R P at_ len mm (.as k p) v mm' ∧ MInv prog w news' X D P ks len B cd er dE mm' cs')
      (fun news' => (∃ mm', R P at_ len mm (.as k p) (-2) mm') ∧ ∃ mm' cs', MInv prog w news' X D P ks len B cd er dE mm' cs') := by
  refine told_def (by k_is) (by k_is) (by omega) (fun _ _ => BindsTo.of_eq rfl) (locs rfl) ?_
  intro dp un gd env outer base G pp loose mean mg mb s L h₁ tk hd hu F N' hlt Bl Xg TT
  (try dsimp only)
  k_fold
  have hrl : recursionLimit = 1000 := rfl
  have hcl : cLine = 9900 := rfl
  obtain ⟨sl, nm, hnm, hX, hSl⟩ := M.expr k hk
  obtain ⟨ps, hO, _⟩ := M.oid k hk
  obtain ⟨oD, hD⟩ := hO.mem
  rw [hP] at hX hSl
  obtain ⟨T, nT, idt, tn, rfl, hT⟩ := hSl
  simp only [Ask.cls] at hX
  k_steps
  unfold Halt
  rename Fr _ _ _ _ => F1
  refine for_tup F1 rfl ?_
  k_steps
  rename Fr _ _ _ _ => F2
  rename News _ _ _ _ => N2
  rename ∀ p ∈ news, p.1 < _ => hl1
  have hch : ∀ r ∈ news, @Ne Nat _ r.1 := fun r hr => Nat.ne_of_gt (hl1 r hr)
  refine ⟨T, _, [.ref (X o), .ref (X o2)], nT, _, _, rfl, rfl, rfl, .tail _ hT, F2, N2, ?_⟩
  try clear F1
  clear F2 N2
  intro h4 tk4 J oJ hJ F4 N4
  k_steps
  unfold Halt
  rename News _ _ _ _ => N5
  rename Fr _ _ _ _ => F5
  refine mc_M M ho F5 Xg N5 (fun _ h => .tail _ (.tail _ h)) ?_
  dsimp only
  k_steps
  unfold Halt
  rename News _ _ _ _ => N6
  rename Fr _ _ _ _ => F6
  refine told_use (xs := [(J, oJ), (_, listOf #[] 0)]) (C mm cs o p _ _ news ho hp hg hl M) Bl F6 Xg N6 TT rfl rfl rfl rfl (by simp only [depth_deeper]; omega) (by simp only [units_deeper]; omega) (fun q hq r hr e => by
      rcases List.mem_cons.mp hq with rfl | hq
      · exact hJ r (.tail _ hr) e.symm
      · rw [List.mem_singleton.mp hq] at e; exact hch r hr e) ?_ ?_
  · rintro r news4 h7 tk7 F7 N7 hJ7 ⟨v, mm', cs', hv2, hcs, hres, hR, M4⟩
    try clear F5
    try clear N5
    try clear F6
    try clear N6
    obtain ⟨hg4, hr4⟩ := hR.good hat hg hp
    simp only [Ways.place] at hr4
    have hl4 : left n len mm' ≤ N := Nat.le_trans (left_mono hR.grow) hl
    have hchJ : @Ne Nat _ J := hJ _ (.head _)
    have hch4 : ∀ p ∈ news4, @Ne Nat p.1 _ := fun r hr e => hJ7 _ (.tail _ (.head _)) r hr e.symm
    have hJ4 : ∀ p ∈ news4, @Ne Nat p.1 J := fun r hr e => hJ7 _ (.head _) r hr e.symm
    dsimp only at hchJ hch4
    simp only [List.cons_append, List.nil_append] at N7
    rcases hres with ⟨rfl, rfl⟩ | ⟨q, nd, rfl, rfl, hnd⟩
    · k_steps
      all_goals (try dsimp only [TurnBack])
      refine back_of (by assumption) (by assumption) ⟨-1, mm', cs', by decide, ⟨hcs.1, fun q hq hc => .tail _ (.tail _ (hcs.2 q hq hc))⟩, .inl ⟨rfl, rfl⟩, .chain1 hP hR (by decide), M4.sup fun q hq => .tail _ (.tail _ hq)⟩
    · obtain ⟨d5, c5, ex5, x5, t5, l15, l25, hnm5, oD5, hD5⟩ := id hnd
      have hq := hr4.nat
      k_steps
      all_goals (try dsimp only [TurnBack])
      rename Fr _ _ _ _ => F8
      rename News _ _ _ _ => N8
      refine ⟨_, _, _, (_, _) :: news4, rfl, F8, N8, ?_, .tail _ (hcs.2 _ hT tup_ne_dict), ?_⟩
      · intro p hp q hq e
        rw [List.mem_singleton.mp hq] at e
        rcases List.mem_cons.mp hp with rfl | hp
        · exact hchJ e
        · exact hJ4 p hp e
      clear F8 N8
      intro h14 tk14 J2 oJ2 hJ2 F14 N14
      simp only [List.cons_append, List.nil_append] at N14
      k_steps
      unfold Halt
      rename News _ _ _ _ => N5
      rename Fr _ _ _ _ => F5
      refine mc_M M4 ho2 F5 Xg N5 (fun _ h => .tail _ (.tail _ h)) ?_
      dsimp only
      k_steps
      unfold Halt
      rename News _ _ _ _ => N6
      rename Fr _ _ _ _ => F6
      rw [show ((p : Int) + ((q : Int) - p)) = q by omega]
      have hchJ2 : @Ne Nat _ J2 := hJ2 _ (.head _)
      refine told_use (xs := [(J2, oJ2), (_, _)]) (C mm' cs' o2 q _ _ news4 ho2 hq.2 hg4 hl4 M4) Bl F6 Xg N6 TT rfl rfl rfl rfl (by simp only [depth_deeper]; omega) (by simp only [units_deeper]; omega) (fun q hq r hr e => by
          rcases List.mem_cons.mp hq with rfl | hq
          · exact hJ2 r (.tail _ hr) e.symm
          · rw [List.mem_singleton.mp hq] at e; exact hch4 r hr e.symm) ?_ ?_
      · rintro r news5 h7 tk7 F7 N7 hJ7' ⟨v, mm2, cs2, hv2', hcs', hres, hR2, M5⟩
        try clear F5
        try clear N5
        try clear F6
        try clear N6
        have hch5 : ∀ p ∈ news5, @Ne Nat p.1 _ := fun r hr e => hJ7' _ (.tail _ (.head _)) r hr e.symm
        have hJ5 : ∀ p ∈ news5, @Ne Nat p.1 J2 := fun r hr e => hJ7' _ (.head _) r hr e.symm
        dsimp only at hchJ2 hch5
        simp only [List.cons_append, List.nil_append] at N7
        rcases hres with ⟨rfl, rfl⟩ | ⟨q2, nd2, rfl, rfl, hnd2⟩
        · k_steps
          all_goals (try dsimp only [TurnBack])
          refine back_of (by assumption) (by assumption) ⟨-1, mm2, cs2, by decide, ⟨fun a ha => hcs'.1 _ (hcs.1 _ ha), fun q hq hc => .tail _ (.tail _ (hcs'.2 _ (hcs.2 q hq hc) hc))⟩, .inl ⟨rfl, rfl⟩, .chain2 hP hR hR2, M5.sup fun q hq => .tail _ (.tail _ hq)⟩
        · obtain ⟨d6, c6, ex6, x6, t6, l16, l26, hnm6, oD6, hD6⟩ := id hnd2
          k_steps
          all_goals (try dsimp only [TurnBack])
          rename Fr _ _ _ _ => F8
          rename News _ _ _ _ => N8
          refine ⟨_, _, _, (_, _) :: news5, rfl, F8, N8, ?_, .tail _ (hcs'.2 _ (hcs.2 _ hT tup_ne_dict) tup_ne_dict), ?_⟩
          · intro p hp q hq e
            rw [List.mem_singleton.mp hq] at e
            rcases List.mem_cons.mp hp with rfl | hp
            · exact hchJ2 e
            · exact hJ5 p hp e
          clear F8 N8
          intro h15 tk15 F15 N15
          k_steps
          unfold Halt
          rename News _ _ _ _ => N9
          rename Fr _ _ _ _ => F9
          rw [show ((p : Int) + ((q : Int) - p) + ((q2 : Int) - q)) = q2 by omega]
          refine node_K (xn2 (Xg.keeps F9.keep) (N9 _ (.head _)).1 (by simp)) F9 N9 rfl (by simp only [depth_deeper]; omega) (by simp only [units_deeper]; omega) fun a9 h9 tk9 news9 F10 N10 s10 hnd9 => ?_
          clear F9 N9
          k_steps
          all_goals (try dsimp only)
          exact back_of F10 N10 ⟨q2, _, _, by omega, ⟨fun a ha => hcs'.1 _ (hcs.1 _ ha), fun q hq hc => s10 _ (.tail _ (hcs'.2 _ (hcs.2 _ hq hc) hc))⟩, .inr ⟨q2, a9, rfl, rfl, hnd9⟩, .chain2 hP hR hR2, M5.sup fun q hq => s10 _ (.tail _ hq)⟩
      · rintro er1 t1 us1 news10 g10 h10 tk10 F10 R10 U10 ⟨⟨mm2, hR2⟩, hM⟩
        exact leave_onS Bl F10 R10 U10 fun h11 R11 _ U11 => oops_of R11 U11 ⟨⟨_, .chain2 hP hR hR2⟩, hM⟩
  · rintro er1 t1 us1 news10 g10 h10 tk10 F10 R10 U10 ⟨⟨mm', hR⟩, hM⟩
    exact leave_onS Bl F10 R10 U10 fun h11 R11 _ U11 => oops_of R11 U11 ⟨⟨_, .chain1 hP hR (by decide)⟩, hM⟩
end
end VJ
end

section
open PySem PySem.W PyProof.Rows PySem.Calls PySem.Spec PyProof.V
namespace VJ
set_option maxRecDepth 100000
theorem fillQ7 : K9 = K9 ∧ PySem.Challenge.rw_vj0024_01 = PySem.Challenge.rw_vj0024_01 := by
  k_fill
  exact ⟨rfl, rfl⟩
local macro_rules | `(tactic| k_mem) => `(tactic| (refine list_mem_of ?_; ktr_member))
local macro_rules | `(tactic| k_all) => `(tactic| assumption)
local macro_rules | `(tactic| k_room) => `(tactic| first | omega | (simp only [depth_under_make, depth_under_kw, depth_in1, depth_deeper]; omega))
local macro_rules | `(tactic| walk_at "pad 1") => `(tactic| fail)
local macro_rules | `(tactic| walk_at "call ref") => `(tactic| ((with_reducible show wpAny _ _ (call (Value.ref 243) _ _) _ _ _); k_dflt ((try dsimp only); refine halt_of ?_)))
local macro_rules | `(tactic| walk_at "call ref") => `(tactic| ((with_reducible show wpAny _ _ (call (Value.ref 297) _ _) _ _ _); k_dflt ((try dsimp only); refine halt_of ?_)))
local macro_rules | `(tactic| walk_at "getMethod ref") => `(tactic| ((with_reducible show wpAny _ _ (getMethod (Value.ref _) (Str.ofString "match_core") _) _ _ _); k_dflt ((try dsimp only); refine halt_of ?_)))
local macro_rules | `(tactic| k_ne) => `(tactic| (first | assumption | exact Ne.symm (by assumption)))
local macro_rules | `(tactic| walk_at "call builtin:len") => `(tactic| (k_here; (with_reducible show wpAny _ _ (call (Value.builtin "len") [Value.ref _]) _ _ _); k_dflt (refine' len_lst ?k1 ?k2 ?k3 ?_; (case k1 => k_asm); (case k2 => k_mem); (case k3 => (first | omega | (simp only [Array.size_push]; omega))); k_whole)))
local macro_rules | `(tactic| walk_at "exec While BoolOp") => `(tactic| (k_dflt ((try dsimp only); refine halt_of ?_)))
theorem while_inv {prog : Program} {w : World} {A : Around} {E : Value → Shared → Prop} {s : Shared} {env : Env} {test : PySem.Expr} {body orelse : List Stmt} {pos : Pos} {Q : Flow → Shared → Prop} (I : Nat → Shared → Prop)
    (turn : ∀ n s, I n s → wpAny (model prog w) A (isTrue test env (eval test env)) (fun b s₂ => WhlIf b (wpAny (model prog w) A (execs body env) (fun f s₃ => match f with
            | .next | .cont => ∃ m, m < n ∧ I m s₃
            | .brk => Q .next s₃
            | .ret v => Q (.ret v) s₃) E s₂) (wpAny (model prog w) A (execs orelse env) Q E s₂)) E s)
    (n : Nat) (h : I n s) (hE : PassesOwn (model prog w) A env E := by passes_own) : wpAny (model prog w) A (exec (.While test body orelse pos) env) Q E s := by
  refine wpAny_While (codeAny_whileLoop I (fun n s hI => wpAny_passesOwn hE (wpAny_mono (turn n s hI) (fun b s₂ h₂ => ?_) fun _ _ e => e)) n h)
  cases b with
  | true =>
    have h₃ := h₂
    unfold WhlIf at h₃
    rw [if_pos rfl] at h₃
    rw [if_pos rfl]
    exact wpAny_passesOwn hE (wpAny_mono h₃ (fun f s₃ z => by cases f <;> exact z) fun _ _ e => e)
  | false =>
    have h₃ : wpAny (model prog w) A (execs orelse env) Q E s₂ := by unfold WhlIf at h₂; rw [if_neg Bool.false_ne_true] at h₂; exact h₂
    rw [if_neg Bool.false_ne_true]
    exact wpAny_passesOwn hE h₃
section
variable {prog : Program} {w : World} {X D : Nat → Addr} {P : Nat → Ask} {ks : List Nat} {n len B : Nat} {cd er dE : Addr} {at_ : Str → Nat → Bool} {text : Str}
abbrev mW (u : Str → Option Value) (z0 : Int) (ch : Addr) (tz : Tok) (p' : Int) (t' : Tok) (m₀ : Str → Option Value) : Str → Option Value := fun z =>
  if z = Str.ofString "node" then u z else if z = Str.ofString "length" then u z else if z = Str.ofString "size" then some (.int z0 tz) else if z = Str.ofString "children" then some (.ref ch) else if z = Str.ofString "new_pos" then some (.int p' t') else m₀ z
theorem toW {G h : Heap} {L : Addr} {m m₀ : Str → Option Value} {z0 p' : Int} {ch : Addr} {tz t' : Tok} (F : Fr G L h m) (h1 : m (Str.ofString "size") = some (.int z0 tz)) (h2 : m (Str.ofString "children") = some (.ref ch)) (h3 : m (Str.ofString "new_pos") = some (.int p' t'))
    (e : ∀ z, z ≠ Str.ofString "node" → z ≠ Str.ofString "length" → z ≠ Str.ofString "size" → z ≠ Str.ofString "children" → z ≠ Str.ofString "new_pos" → m z = m₀ z) : Fr G L h (mW m z0 ch tz p' t' m₀) := by
  have : m = mW m z0 ch tz p' t' m₀ := by
    funext z
    unfold mW
    split
    · rfl
    · split
      · rfl
      · split
        · rename_i z'; rw [z', h1]
        · split
          · rename_i z'; rw [z', h2]
          · split
            · rename_i z'; rw [z', h3]
            · exact e z (by assumption) (by assumption) (by assumption) (by assumption) (by assumption)
  rw [← this]; exact F
/-- behind the loop -/
def MidW (prog : Program) (w : World) (X D : Nat → Addr) (P : Nat → Ask) (ks : List Nat) (len B : Nat) (cd er dE : Addr) (at_ : Str → Nat → Bool) (G : Heap) (L : Addr) (s : Shared) (m₀ : Str → Option Value) (z0 : Int) (ch : Addr) (tz : Tok) (mm : Memo) (cs : List (Nat × Addr)) (news : Led1) (o p : Nat) (l mx : Int) (s' : Shared) : Prop :=
  ∃ h' tk' news' cs' mm' c p' its nl u t', s' = { s with heap := h', toks := tk' } ∧ Fr G L h' (mW u z0 ch tz (p' : Nat) t' m₀) ∧ News G L h' ((ch, listOf its nl) :: news') ∧ its.size = c ∧ c ≤ 100 ∧ ((∀ a ∈ cs, a ∈ cs') ∧ Stay news news') ∧ MInv prog w news' X D P ks len B cd er dE mm' cs' ∧ p ≤ p' ∧ p' ≤ len ∧
    R P at_ len mm (.mn o l mx 0 p) (if l ≤ (c : Int) then (p' : Int) else -1) mm'
/-- in the loop -/
def InW (prog : Program) (w : World) (X D : Nat → Addr) (P : Nat → Ask) (ks : List Nat) (n len B : Nat) (cd er dE : Addr) (at_ : Str → Nat → Bool) (G : Heap) (L : Addr) (s : Shared) (m₀ : Str → Option Value) (z0 : Int) (ch : Addr) (tz : Tok) (mm : Memo) (cs : List (Nat × Addr)) (news : Led1) (N o p : Nat) (l mx : Int) (i : Nat) (s' : Shared) : Prop :=
  ∃ h' tk' news' cs' mm' c p' its nl u t', s' = { s with heap := h', toks := tk' } ∧ Fr G L h' (mW u z0 ch tz (p' : Nat) t' m₀) ∧ News G L h' ((ch, listOf its nl) :: news') ∧ its.size = c ∧ p + c ≤ p' ∧ (mx = -1 ∨ (c : Int) ≤ mx) ∧ ((∀ a ∈ cs, a ∈ cs') ∧ Stay news news') ∧ MInv prog w news' X D P ks len B cd er dE mm' cs' ∧ p' ≤ len ∧
    i = len + 1 - p' ∧ Good len mm' ∧ left n len mm' ≤ N ∧ (∀ r ∈ news', @Ne Nat r.1 ch) ∧ ∀ v mm2, R P at_ len mm' (.mn o l mx c p') v mm2 → R P at_ len mm (.mn o l mx 0 p) v mm2
set_option maxHeartbeats 4000000 in
theorem um_many {N k o : Nat} {l mx : Int} (hP : P k = .many o l mx) (C : CoreC prog w X D P ks n len B cd er dE at_ text N) (hat : ∀ x p, p ≤ len → at_ x p = true → p + x.length ≤ len) (ho : o ∈ ks) (hlen : text.length = len) (hl5 : len ≤ 5) {mm : Memo} {cs : List (Nat × Addr)} {p : Nat} {t2 t3 : Tok} {news : Led1} (hk : k ∈ ks) (hp : p ≤ len) (hg : Good len mm) (hl : left n len mm ≤ N) (M : MInv prog w news X D P ks len B cd er dE mm cs) :
    Told prog w 517 [.ref (X k), .str text t2, .int p t3, .ref cd, .ref er] (2 * N + 111) (32 * N + 1016) news
      (fun r news' => ∃ v mm' cs', v ≠ -2 ∧ ((∀ a ∈ cs, a ∈ cs') ∧ Stay news news') ∧ ResIs news' r v p ∧ R P at_ len mm (.as k p) v mm' ∧ MInv prog w news' X D P ks len B cd er dE mm' cs')
      (fun news' => (∃ mm', R P at_ len mm (.as k p) (-2) mm') ∧ ∃ mm' cs', MInv prog w news' X D P ks len B cd er dE mm' cs') := by
  refine told_def (by k_is) (by k_is) (by omega) (fun _ _ => BindsTo.of_eq rfl) (locs rfl) ?_
  intro dp un gd env outer base G pp loose mean mg mb s L h₁ tk hd hu F N' hlt Bl Xg TT
  (try dsimp only)
  k_fold
  have hrl : recursionLimit = 1000 := rfl
  have hcl : cLine = 9900 := rfl
  obtain ⟨sl, nm, hnm, hX, hSl⟩ := M.expr k hk
  obtain ⟨ps, hO, _⟩ := M.oid k hk
  obtain ⟨oD, hD⟩ := hO.mem
  rw [hP] at hX hSl
  obtain ⟨hl1, T, nT, idt, tn, mv, tl, rfl, hT, hmx⟩ := hSl
  simp only [Ask.cls] at hX
  k_steps
  unfold Halt
  rename Fr _ _ _ _ => F1
  rename News _ _ _ _ => N1
  rename ∀ p ∈ news, p.1 < _ => hl1'
  rename Heap => h9
  obtain ⟨ch, tz, u, F8, N8, hl8⟩ : ∃ (ch : Addr) (tz : Tok) (u : Str → Option Value), Fr G L h9 (mW u text.length ch tz p t3 (m5 (X k) text t2 p t3 cd er)) ∧ News G L h9 ((ch, listOf #[] 0) :: news) ∧ ∀ r ∈ news, r.1 < ch :=
    ⟨_, _, _, toW F1 rfl rfl rfl fun z z1 z2 z3 z4 z5 => by (simp only [if_neg z3, if_neg z4, if_neg z5] <;> rfl), N1, hl1'⟩
  clear F1 N1 hl1'
  refine cut_at (MidW prog w X D P ks len B cd er dE at_ G L s (m5 (X k) text t2 p t3 cd er) text.length ch tz mm cs news o p l mx) ?_ ?_
  · refine while_inv (InW prog w X D P ks n len B cd er dE at_ G L s (m5 (X k) text t2 p t3 cd er) text.length ch tz mm cs news N o p l mx) ?_ (len + 1 - p)
      ⟨_, _, news, cs, mm, 0, p, #[], 0, u, t3, rfl, F8, N8, rfl, by omega, ?_, ⟨fun _ h => h, fun _ h _ => h⟩, M, hp, rfl, hg, hl, fun r hr => Nat.ne_of_lt (hl8 r hr), fun _ _ h => h⟩
    · rintro i s' ⟨h2, tk2, news2, cs2, mm2, c, p', its, nl, u2, t', rfl, F2, N2, hc, hpc, hcm, hst, M2, hpl, rfl, hg2, hl2, hne, hR2⟩
      clear hX hD hT hO F8 N8
      obtain ⟨sl2, nm2, hnm2, hX, hSl⟩ := M2.expr k hk
      obtain ⟨ps2, hO, _⟩ := M2.oid k hk
      obtain ⟨oD2, hD⟩ := hO.mem
      rw [hP] at hX hSl
      obtain ⟨_, T2, nT2, idt2, tn2, mv2, tl2, rfl, hT, hmx2⟩ := hSl
      simp only [Ask.cls] at hX
      rcases hmx2 with ⟨hm1, tf, rfl⟩ | ⟨hm0, tm, rfl⟩
      · k_steps
        · unfold Halt
          have hgo : ¬ (len ≤ p' ∨ (c : Int) = mx) := by omega
          rename News _ _ _ _ => N5
          rename Fr _ _ _ _ => F5
          refine mc_M M2 ho F5 Xg N5 (fun _ h => .tail _ h) ?_
          dsimp only
          k_steps
          unfold Halt
          rename News _ _ _ _ => N6
          rename Fr _ _ _ _ => F6
          refine told_use (xs := [(ch, listOf its nl)]) (C mm2 cs2 o p' _ _ news2 ho hpl hg2 hl2 M2) Bl F6 Xg N6 TT rfl rfl rfl rfl (by simp only [depth_deeper]; omega) (by simp only [units_deeper]; omega) (fun q hq r hr e => by
              rw [List.mem_singleton.mp hq] at e; exact hne r hr e.symm) ?_ ?_
          · rintro r news4 h7 tk7 F7 N7 hJ7 ⟨v, mm', cs', hv2, hcs, hres, hR, M4⟩
            try clear F5
            try clear N5
            try clear F6
            try clear N6
            obtain ⟨hg4, hr4⟩ := hR.good hat hg2 hpl
            simp only [Ways.place] at hr4
            have hne4 : ∀ r ∈ news4, @Ne Nat r.1 ch := fun r hr e => hJ7 _ (.head _) r hr e.symm
            simp only [List.cons_append, List.nil_append] at N7
            have hst4 : (∀ a ∈ cs, a ∈ cs') ∧ Stay news news4 := ⟨fun a ha => hcs.1 _ (hst.1 _ ha), fun q hq hc => hcs.2 _ (hst.2 q hq hc) hc⟩
            clear hX hD hT hO
            obtain ⟨sl4, nm4, hnm4, hX4, hSl4⟩ := M4.expr k hk
            obtain ⟨ps4, hO4, _⟩ := M4.oid k hk
            obtain ⟨oD4, hD4⟩ := hO4.mem
            rw [hP] at hX4 hSl4
            obtain ⟨_, T4, nT4, idt4, tn4, mv4, tl4, rfl, hT4, hmx4⟩ := hSl4
            simp only [Ask.cls] at hX4
            rcases hres with ⟨rfl, rfl⟩ | ⟨q, nd, rfl, rfl, hnd⟩
            · k_steps
              any_goals exact trivial
              rename Fr _ _ _ _ => F8
              rename News _ _ _ _ => N8
              refine ⟨_, _, news4, cs', mm', c, p', its, nl, _, t', rfl, toW F8 rfl rfl rfl fun z z1 z2 z3 z4 z5 => ?_, N8, hc, by omega, hst4, M4, by omega, by omega, hR2 _ _ (.none hgo hR)⟩
              simp only [mW, if_neg z1, if_neg z2, if_neg z3, if_neg z4, if_neg z5]
            · obtain ⟨d5, c5, ex5, x5, t5, l15, l25, hnm5, oD5, hD5⟩ := id hnd
              have hq := hr4.nat
              have hps : (its.push (Value.ref nd)).size = c + 1 := by rw [Array.size_push, hc]
              k_steps
              any_goals exact trivial
              · rename Fr _ _ _ _ => F8
                rename News _ _ _ _ => N8
                rename (q : Int) - (p' : Int) = 0 => e1
                have e2 : q = p' := by omega
                rw [e2] at hR
                refine ⟨_, _, news4, cs', mm', c + 1, p', _, _, _, t', rfl, toW F8 rfl rfl rfl fun z z1 z2 z3 z4 z5 => ?_, N8, hps, by omega, hst4, M4, by omega, by omega, ?_⟩
                · simp only [mW, if_neg z1, if_neg z2, if_neg z3, if_neg z4, if_neg z5]
                · rw [if_pos (by omega)]
                  exact hR2 _ _ (.still hgo hR (by omega))
              rotate_left 2
              · exact len + 1 - q
              · omega
              · rename Fr _ _ _ _ => F8
                rename News _ _ _ _ => N8
                rename (q : Int) - (p' : Int) ≠ 0 => e1
                refine ⟨_, _, news4, cs', mm', c + 1, q, _, _, _, _, rfl, toW F8 rfl rfl (congrArg (fun z => some (Value.int z _)) (show ((p' : Int) + ((q : Int) - p')) = (q : Int) by omega)) fun z z1 z2 z3 z4 z5 => ?_, N8, hps, by omega, by omega, hst4, M4, hq.2, rfl, hg4, Nat.le_trans (left_mono hR.grow) hl2, hne4, fun v mm3 h3 => hR2 _ _ (.more hgo hR (by omega) h3)⟩
                simp only [mW, if_neg z1, if_neg z2, if_neg z3, if_neg z4, if_neg z5]
          · rintro er1 t1 us1 news10 g10 h10 tk10 F10 R10 U10 ⟨⟨mm', hR⟩, hM⟩
            exact leave_onS Bl F10 R10 U10 fun h11 R11 _ U11 => oops_of R11 U11 ⟨⟨_, .many hP (hR2 _ _ (.manyX hgo hR))⟩, hM⟩
        · rename (Float64.cmpInt _ _ == _) = false => hfl
          exfalso
          have h5 : its.size = 0 ∨ its.size = 1 ∨ its.size = 2 ∨ its.size = 3 ∨ its.size = 4 ∨ its.size = 5 := by omega
          rcases h5 with h5 | h5 | h5 | h5 | h5 | h5 <;> (rw [h5] at hfl; revert hfl; decide +kernel)
        · refine ⟨_, _, news2, cs2, mm2, c, p', its, nl, u2, t', rfl, F2, N2, hc, by omega, hst, M2, by omega, hpl, hR2 _ _ (.stop (.inl (by omega)))⟩
      · k_steps
        · unfold Halt
          have hgo : ¬ (len ≤ p' ∨ (c : Int) = mx) := by omega
          rename News _ _ _ _ => N5
          rename Fr _ _ _ _ => F5
          refine mc_M M2 ho F5 Xg N5 (fun _ h => .tail _ h) ?_
          dsimp only
          k_steps
          unfold Halt
          rename News _ _ _ _ => N6
          rename Fr _ _ _ _ => F6
          refine told_use (xs := [(ch, listOf its nl)]) (C mm2 cs2 o p' _ _ news2 ho hpl hg2 hl2 M2) Bl F6 Xg N6 TT rfl rfl rfl rfl (by simp only [depth_deeper]; omega) (by simp only [units_deeper]; omega) (fun q hq r hr e => by
              rw [List.mem_singleton.mp hq] at e; exact hne r hr e.symm) ?_ ?_
          · rintro r news4 h7 tk7 F7 N7 hJ7 ⟨v, mm', cs', hv2, hcs, hres, hR, M4⟩
            try clear F5
            try clear N5
            try clear F6
            try clear N6
            obtain ⟨hg4, hr4⟩ := hR.good hat hg2 hpl
            simp only [Ways.place] at hr4
            have hne4 : ∀ r ∈ news4, @Ne Nat r.1 ch := fun r hr e => hJ7 _ (.head _) r hr e.symm
            simp only [List.cons_append, List.nil_append] at N7
            have hst4 : (∀ a ∈ cs, a ∈ cs') ∧ Stay news news4 := ⟨fun a ha => hcs.1 _ (hst.1 _ ha), fun q hq hc => hcs.2 _ (hst.2 q hq hc) hc⟩
            clear hX hD hT hO
            obtain ⟨sl4, nm4, hnm4, hX4, hSl4⟩ := M4.expr k hk
            obtain ⟨ps4, hO4, _⟩ := M4.oid k hk
            obtain ⟨oD4, hD4⟩ := hO4.mem
            rw [hP] at hX4 hSl4
            obtain ⟨_, T4, nT4, idt4, tn4, mv4, tl4, rfl, hT4, hmx4⟩ := hSl4
            simp only [Ask.cls] at hX4
            rcases hres with ⟨rfl, rfl⟩ | ⟨q, nd, rfl, rfl, hnd⟩
            · k_steps
              any_goals exact trivial
              rename Fr _ _ _ _ => F8
              rename News _ _ _ _ => N8
              refine ⟨_, _, news4, cs', mm', c, p', its, nl, _, t', rfl, toW F8 rfl rfl rfl fun z z1 z2 z3 z4 z5 => ?_, N8, hc, by omega, hst4, M4, by omega, by omega, hR2 _ _ (.none hgo hR)⟩
              simp only [mW, if_neg z1, if_neg z2, if_neg z3, if_neg z4, if_neg z5]
            · obtain ⟨d5, c5, ex5, x5, t5, l15, l25, hnm5, oD5, hD5⟩ := id hnd
              have hq := hr4.nat
              have hps : (its.push (Value.ref nd)).size = c + 1 := by rw [Array.size_push, hc]
              k_steps
              any_goals exact trivial
              · rename Fr _ _ _ _ => F8
                rename News _ _ _ _ => N8
                rename (q : Int) - (p' : Int) = 0 => e1
                have e2 : q = p' := by omega
                rw [e2] at hR
                refine ⟨_, _, news4, cs', mm', c + 1, p', _, _, _, t', rfl, toW F8 rfl rfl rfl fun z z1 z2 z3 z4 z5 => ?_, N8, hps, by omega, hst4, M4, by omega, by omega, ?_⟩
                · simp only [mW, if_neg z1, if_neg z2, if_neg z3, if_neg z4, if_neg z5]
                · rw [if_pos (by omega)]
                  exact hR2 _ _ (.still hgo hR (by omega))
              rotate_left 2
              · exact len + 1 - q
              · omega
              · rename Fr _ _ _ _ => F8
                rename News _ _ _ _ => N8
                rename (q : Int) - (p' : Int) ≠ 0 => e1
                refine ⟨_, _, news4, cs', mm', c + 1, q, _, _, _, _, rfl, toW F8 rfl rfl (congrArg (fun z => some (Value.int z _)) (show ((p' : Int) + ((q : Int) - p')) = (q : Int) by omega)) fun z z1 z2 z3 z4 z5 => ?_, N8, hps, by omega, by omega, hst4, M4, hq.2, rfl, hg4, Nat.le_trans (left_mono hR.grow) hl2, hne4, fun v mm3 h3 => hR2 _ _ (.more hgo hR (by omega) h3)⟩
                simp only [mW, if_neg z1, if_neg z2, if_neg z3, if_neg z4, if_neg z5]
          · rintro er1 t1 us1 news10 g10 h10 tk10 F10 R10 U10 ⟨⟨mm', hR⟩, hM⟩
            exact leave_onS Bl F10 R10 U10 fun h11 R11 _ U11 => oops_of R11 U11 ⟨⟨_, .many hP (hR2 _ _ (.manyX hgo hR))⟩, hM⟩
        · refine ⟨_, _, news2, cs2, mm2, c, p', its, nl, u2, t', rfl, F2, N2, hc, by omega, hst, M2, by omega, hpl, hR2 _ _ (.stop (.inr (by omega)))⟩
        · refine ⟨_, _, news2, cs2, mm2, c, p', its, nl, u2, t', rfl, F2, N2, hc, by omega, hst, M2, by omega, hpl, hR2 _ _ (.stop (.inl (by omega)))⟩
    · rcases hmx with ⟨rfl, _⟩ | ⟨h, _⟩
      · exact .inl rfl
      · exact .inr h
  · rintro s' ⟨h2, tk2, news2, cs2, mm2, c, p', its, nl, u2, t', rfl, F2, N2, hc, hc100, hst, M2, hpp, hpl, hR⟩
    clear hX hD hT hO F8 N8
    obtain ⟨sl2, nm2, hnm2, hX, hSl⟩ := M2.expr k hk
    obtain ⟨ps2, hO, _⟩ := M2.oid k hk
    obtain ⟨oD2, hD⟩ := hO.mem
    rw [hP] at hX hSl
    obtain ⟨_, T2, nT2, idt2, tn2, mv2, tl2, rfl, hT, hmx2⟩ := hSl
    simp only [Ask.cls] at hX
    k_steps
    · unfold Halt
      rename News _ _ _ _ => N9
      rename Fr _ _ _ _ => F9
      refine node_K (xn2 (Xg.keeps F9.keep) (N9 _ (.head _)).1 (by omega)) F9 N9 rfl (by simp only [depth_deeper]; omega) (by simp only [units_deeper]; omega) fun a9 h9 tk9 news9 F10 N10 s10 hnd9 => ?_
      clear F9 N9
      k_steps
      all_goals (try dsimp only)
      exact back_of F10 N10 ⟨p', mm2, cs2, by omega, ⟨hst.1, fun q hq hc => s10 _ (.tail _ (hst.2 q hq hc))⟩, .inr ⟨p', a9, rfl, rfl, hnd9⟩, .many hP (by rw [if_pos (by omega)] at hR; exact hR), M2.sup fun q hq => s10 _ (.tail _ hq)⟩
    · rename News _ _ _ _ => N9
      rename Fr _ _ _ _ => F9
      all_goals (try dsimp only)
      exact back_of F9 N9 ⟨-1, mm2, cs2, by decide, ⟨hst.1, fun q hq hc => .tail _ (hst.2 q hq hc)⟩, .inl ⟨rfl, rfl⟩, .many hP (by rw [if_neg (by omega)] at hR; exact hR), M2.sup fun q hq => .tail _ hq⟩
end
end VJ
end

section
open PySem PySem.W PyProof.Rows PySem.Calls PySem.Spec PyProof.V
namespace VJ
set_option maxRecDepth 100000
section
variable {prog : Program} {w : World} {X D : Nat → Addr} {P : Nat → Ask} {ks : List Nat} {n len B : Nat} {cd er dE : Addr} {at_ : Str → Nat → Bool} {text : Str}
theorem um_of {N : Nat} (hkids : ∀ k ∈ ks, ∀ c ∈ (P k).kids, c ∈ ks) (hat : ∀ x p, p ≤ len → at_ x p = true → p + x.length ≤ len) (hat1 : ∀ (x : Str) (p : Nat), p ≤ len → Txt.startswith3 text x (p : Int) = at_ x p) (hlen : text.length = len) (hl5 : len ≤ 5)
    (C : CoreC prog w X D P ks n len B cd er dE at_ text N) : UmC prog w X D P ks n len B cd er dE at_ text N := by
  intro mm cs k p t2 t3 news hk hp hg hl M
  have kd := hkids k hk
  cases hP : P k with
  | word x => exact um_word hP hat1 hlen hl5 hk hp M
  | many o l mx => exact um_many hP C hat (kd o (by rw [hP]; exact .head _)) hlen hl5 hk hp hg hl M
  | look o g => exact um_look hP C (kd o (by rw [hP]; exact .head _)) hlen hl5 hk hp hg hl M
  | choice o o2 => exact um_choice hP C hat (kd o (by rw [hP]; exact .head _)) (kd o2 (by rw [hP]; exact .tail _ (.head _))) hlen hl5 hk hp hg hl M
  | chain o o2 => exact um_chain hP C hat (kd o (by rw [hP]; exact .head _)) (kd o2 (by rw [hP]; exact .tail _ (.head _))) hlen hl5 hk hp hg hl M
/-- the matching holds its contract -/
theorem core_all (hn : n ≤ 100) (hks : ∀ k ∈ ks, k < n) (hB : B ≤ 50) (hkids : ∀ k ∈ ks, ∀ c ∈ (P k).kids, c ∈ ks) (hat : ∀ x p, p ≤ len → at_ x p = true → p + x.length ≤ len) (hat1 : ∀ (x : Str) (p : Nat), p ≤ len → Txt.startswith3 text x (p : Int) = at_ x p) (hlen : text.length = len) (hl5 : len ≤ 5) (N : Nat) :
    CoreC prog w X D P ks n len B cd er dE at_ text N := by
  induction N using Nat.strongRecOn with
  | ind N ih =>
    refine core_step ?_ hn hks hlen hl5 hB fun M hM => um_of hkids hat hat1 hlen hl5 (ih M hM)
    calc n * (len + 1) ≤ 100 * (5 + 1) := Nat.mul_le_mul hn (by omega)
      _ ≤ 1000 := by omega
end
end VJ
end

section
open PySem PySem.W PyProof.Rows PySem.Calls PySem.Spec PyProof.V
namespace VJ
set_option maxRecDepth 100000
theorem fillL : K9 = K9 ∧ PySem.Challenge.rw_vj0024_01 = PySem.Challenge.rw_vj0024_01 := by
  k_fill
  exact ⟨rfl, rfl⟩
local macro_rules | `(tactic| k_mem) => `(tactic| (refine list_mem_of ?_; ktr_member))
local macro_rules | `(tactic| k_all) => `(tactic| assumption)
local macro_rules | `(tactic| k_room) => `(tactic| first | omega | (simp only [depth_under_make, depth_under_kw, depth_in1, depth_deeper]; omega))
local macro_rules | `(tactic| walk_at "exec For Name Call cons nil") => `(tactic| (k_here; (rename Fr _ _ _ _ => lF'); (with_unfolding_all refine' For_invVF lF' ?k1 ?k2 ?_; (case k1 => exact rfl); (case k2 => exact rfl); k_whole)))
local macro_rules | `(tactic| walk_at "pyIter ref") => `(tactic| ((with_reducible show wpAny _ _ (pyIter (Value.ref _)) (fun it s₂ => LoopAtV _ _ _ _ _ _ _ _ _ it s₂) _ _); k_dflt ((try dsimp only); refine halt_of ?_)))
theorem set_eq (pv : List Value) (i : Nat) (v : Value) : pv.toArray.setIfInBounds ((0 : Int) + (i : Nat)).toNat v = (pv.set i v).toArray := by
  have : ((0 : Int) + (i : Nat)).toNat = i := by omega
  rw [this, List.setIfInBounds_toArray]
local macro_rules | `(tactic| walk_at "setItem ref int") => `(tactic| (k_here; k_dflt (refine' set_lst ?k1 ?k2 ?k3 ?k4 ?k5 ?k6 ?k7 ?_; (case k1 => k_asm); (case k2 => k_asm); (case k3 => k_upd); (case k4 => exact set_eq _ _ _); (case k5 => omega); (case k6 => (simp only [List.size_toArray]; omega)); (case k7 => omega); k_whole); intro h' F' N'; (try k_sweep)))
def LJ (prog : Program) (w : World) (d cT cR cP cS st sl pl : Addr) (oT oR oP oS : Obj) (vs : List Value) (n' : Nat) (c : Nat) (_ : Str → Option Value) (nx : Led1) : Prop :=
  ∃ od pv np i tki n rest E T X D top lo kvs, nx = (d, od) :: (cT, oT) :: (cR, oR) :: (cP, oP) :: (cS, oS) :: ((389 : Nat), tabObj #[]) :: (st, listOf #[.ref sl, .int i tki] n) :: (sl, listOf vs.toArray n') :: (pl, listOf pv.toArray np) :: rest ∧
    od.IsDictOf (PySem.strKind prog w) kvs ∧ LS rest c pv E T X D top lo kvs ∧ 0 ≤ i ∧ i ≤ 11 * c ∧ (∀ q ∈ rest, @Ne Nat q.1 st) ∧ (∀ q ∈ rest, @Ne Nat q.1 sl) ∧ (∀ q ∈ rest, @Ne Nat q.1 pl) ∧
    (∀ q ∈ rest, @Ne Nat q.1 d) ∧ (∀ q ∈ rest, @Ne Nat q.1 cT) ∧ (∀ q ∈ rest, @Ne Nat q.1 cR) ∧ (∀ q ∈ rest, @Ne Nat q.1 cP) ∧ (∀ q ∈ rest, @Ne Nat q.1 cS) ∧ ∀ q ∈ rest, @Ne Nat q.1 389
theorem nameOf_ne : ∀ {i j : Nat}, i < 3 → j < 3 → nameOf i = nameOf j → i = j := by
  have key : ∀ i : Fin 3, ∀ j : Fin 3, nameOf i.val = nameOf j.val → i = j := by decide +kernel
  intro i j hi hj e
  exact congrArg Fin.val (key ⟨i, hi⟩ ⟨j, hj⟩ e)
theorem stored_new {kvs : List (Str × Value)} {top : Nat → Nat} {X : Nat → Addr} {i : Nat} {v : Value} (hi : i < 3) (h : kvs = (List.range i).map fun k => (nameOf k, Value.ref (X (top k)))) : stored kvs (Txt.item (Str.ofString "pqr") ((0 : Int) + (i : Nat))) v = kvs ++ [(nameOf i, v)] := by
  rw [Int.zero_add]
  unfold stored
  rw [if_neg ?_]
  · rfl
  · intro e
    obtain ⟨q, hq, e⟩ := List.any_eq_true.mp e
    rw [h] at hq
    obtain ⟨k, hk, rfl⟩ := List.mem_map.mp hq
    have hk2 := List.mem_range.mp hk
    have := nameOf_ne (by omega) hi (of_decide_eq_true e)
    omega
theorem LJ.turn {prog : Program} {w : World} {d cT cR cP cS st sl pl T0 y : Addr} {oT oR oP oS od : Obj} {vs pv pv2 : List Value} {n n' np i key : Nat} {m : Str → Option Value} {ii : Int} {rest rest2 : Led1} {E E2 : Nat → Ent} {T T2 X X2 D D2 : Nat → Addr} {top lo : Nat → Nat} {kvs : List (Str × Value)} {ti t1 t2 t3 t4 t5 : Tok} {nt : Nat}
    (hLS : LS rest i pv E T X D top lo kvs) (hi : i < 3) (g : GRes rest rest2 E E2 T T2 X X2 D D2 pv pv2 7 key y) (hdd : pv.length ≤ key ∧ TwoE (E2 key)) (hd : od.IsDictOf (PySem.strKind prog w) (stored kvs (Txt.item (Str.ofString "pqr") ((0 : Int) + (i : Nat))) (.ref y))) (h0 : 0 ≤ ii) (h1 : ii ≤ 11 * ((i + 1 : Nat) : Int))
    (b1 : ∀ q ∈ rest2, @Ne Nat q.1 st) (b2 : ∀ q ∈ rest2, @Ne Nat q.1 sl) (b3 : ∀ q ∈ rest2, @Ne Nat q.1 pl) (b4 : ∀ q ∈ rest2, @Ne Nat q.1 d) (b5 : ∀ q ∈ rest2, @Ne Nat q.1 cT) (b6 : ∀ q ∈ rest2, @Ne Nat q.1 cR) (b7 : ∀ q ∈ rest2, @Ne Nat q.1 cP) (b8 : ∀ q ∈ rest2, @Ne Nat q.1 cS) (b9 : ∀ q ∈ rest2, @Ne Nat q.1 389)
    (z1 : @LT.lt Nat _ st T0) (z2 : @LT.lt Nat _ sl T0) (z3 : @LT.lt Nat _ pl T0) (z4 : @LT.lt Nat _ d T0) (z5 : @LT.lt Nat _ cT T0) (z6 : @LT.lt Nat _ cR T0) (z7 : @LT.lt Nat _ cP T0) (z8 : @LT.lt Nat _ cS T0) (z9 : @LT.lt Nat _ 389 T0) :
    LJ prog w d cT cR cP cS st sl pl oT oR oP oS vs n' (i + 1) m ((d, od) :: (cT, oT) :: (cR, oR) :: (cP, oP) :: (cS, oS) :: ((389 : Nat), tabObj #[]) :: (st, listOf #[.ref sl, .int ii ti] n) :: (sl, listOf vs.toArray n') :: (pl, listOf (pv2.set i (.ref T0)).toArray np) :: (T0, tup5 (.str (Str.ofString "rule") t1) (.int key t2) (.int 0 t3) (.int 0 t4) (.int 0 t5) nt) :: rest2) := by
  obtain ⟨e, lo', L⟩ := LS.turn (rest3 := (T0, tup5 (.str (Str.ofString "rule") t1) (.int key t2) (.int 0 t3) (.int 0 t4) (.int 0 t5) nt) :: rest2) hLS hi g hdd (fun q hq => .tail _ hq) (T0 := T0) ⟨_, _, _, _, _, _, .head _⟩
  have cons : ∀ {z : Addr}, (∀ q ∈ rest2, @Ne Nat q.1 z) → @LT.lt Nat _ z T0 → ∀ q ∈ (T0, tup5 (.str (Str.ofString "rule") t1) (.int key t2) (.int 0 t3) (.int 0 t4) (.int 0 t5) nt) :: rest2, @Ne Nat q.1 z := fun h l q hq => by
    rcases List.mem_cons.mp hq with rfl | hq
    · exact Nat.ne_of_gt l
    · exact h q hq
  rw [stored_new hi hLS.dict] at hd
  exact ⟨od, _, np, ii, ti, n, _, _, _, _, _, _, _, _, rfl, hd, L, h0, h1, cons b1 z1, cons b2 z2, cons b3 z3, cons b4 z4, cons b5 z5, cons b6 z6, cons b7 z7, cons b8 z8, cons b9 z9⟩
local macro_rules | `(tactic| walk_at "setItem ref str") => `(tactic| ((with_reducible show wpAny _ _ (setItem (Value.ref _) (Value.str _ _) _) _ _ _); k_dflt (refine halt_of ?_)))
local macro_rules | `(tactic| walk_at "call ref") => `(tactic| ((with_reducible show wpAny _ _ (call (Value.ref 574) _) _ _ _); k_dflt ((try dsimp only); refine halt_of ?_)))
local macro_rules | `(tactic| walk_at "call ref") => `(tactic| ((with_reducible show wpAny _ _ (call (Value.ref 567) _) _ _ _); k_dflt ((try dsimp only); first | (refine' next_use ?B ?F ?X ?N ?T ?hA ?hf ?hke ?hh ?hd ?hu ?U ?M ?hI ?h1 ?h2 ?h3 ?h4 ?hlen ?a1 ?_; (case B => k_asm); (case F => k_asm); (case X => k_asm); (case N => k_asm); (case T => k_asm); (case hA => exact rfl); (case hf => exact rfl); (case hke => exact rfl); (case hh => exact rfl); (case hd => exact (show callerA.depth + 1 + 1 < recursionLimit by decide)); (case hu => exact (show callerA.units + 3 + 8 < cLine by decide)); (case U => k_updF); (case M => k_mem); (case hI => assumption); (case h1 => first | decide | omega); (case h2 => first | decide | omega); (case h3 => omega); (case h4 => omega); (case hlen => assumption); (case a1 => k_ne); k_whole; intro v' tk' tk2' h' tk3' hv0' hv1' F' N'; (try dsimp only at N'); (try k_sweep)) | refine halt_of ?_)))
local macro_rules | `(tactic| walk_at "eval ListComp") => `(tactic| ((with_reducible show wpAny _ _ (eval (PySem.Expr.ListComp _ _ _ _) _) _ _ _); k_dflt ((try dsimp only); refine halt_of ?_)))
local macro_rules | `(tactic| walk_at "exec Assign cons ListComp") => `(tactic| (k_dflt ((try dsimp only); refine halt_of ?_)))
local macro_rules | `(tactic| walk_at "call builtin:str.join") => `(tactic| (k_dflt ((try dsimp only); refine halt_of ?_)))
local macro_rules | `(tactic| walk_at "exec For Name") => `(tactic| (k_dflt ((try dsimp only); refine halt_of ?_)))
local macro_rules | `(tactic| walk_at "CompSrc") => `(tactic| (k_dflt ((try dsimp only); refine halt_of ?_)))
def JT (d cT cR cP cS st sl pl : Addr) (od oT oR oP oS : Obj) (vs pv : List Value) (n' np : Nat) (rest : Led1) (i : Nat) (ys : List Value) (nx : Led1) : Prop :=
  ∃ ii tki ns xs, nx = (d, od) :: (cT, oT) :: (cR, oR) :: (cP, oP) :: (cS, oS) :: ((389 : Nat), tabObj #[]) :: (st, listOf #[.ref sl, .int ii tki] ns) :: (sl, listOf vs.toArray n') :: (pl, listOf pv.toArray np) :: rest ∧
    0 ≤ ii ∧ ii ≤ 40 + i ∧ StrsAre ys xs ∧ xs.length = i ∧ ∀ x ∈ xs, x.length = 1
local macro_rules | `(tactic| walk_at "getMethod ref") => `(tactic| ((with_reducible show wpAny _ _ (getMethod (Value.ref _) (Str.ofString "resolve_refs") _) _ _ _); k_dflt ((try dsimp only); refine halt_of ?_)))
local macro_rules | `(tactic| walk_at "call ref") => `(tactic| ((with_reducible show wpAny _ _ (call (Value.ref 394) _) _ _ _); k_dflt ((try dsimp only); refine halt_of ?_)))
local macro_rules | `(tactic| walk_at "subscriptTail") => `(tactic| ((with_reducible show wpAny _ _ (subscriptTail _ _ (Value.ref _) (Value.str _ _)) _ _ _); k_dflt ((try dsimp only); refine halt_of ?_)))
local macro_rules | `(tactic| walk_at "TwoSrc") => `(tactic| (k_dflt (refine halt_of ?_)))
local macro_rules | `(tactic| walk_at "call ref") => `(tactic| ((with_reducible show wpAny _ _ (call (Value.ref 581) _) _ _ _); k_dflt ((try dsimp only); refine halt_of ?_)))
local macro_rules | `(tactic| walk_at "call ref") => `(tactic| ((with_reducible show wpAny _ _ (call (Value.ref 602) _) _ _ _); k_dflt ((try dsimp only); refine halt_of ?_)))
local macro_rules | `(tactic| walk_at "compareOp Eq ref ref") => `(tactic| (k_dflt ((try dsimp only); refine halt_of ?_)))
set_option maxHeartbeats 16000000 in
theorem law_all : PySem.Challenge.rw_vj0024_01.Holds := by
  refine hd ?_
  k_fill
  intro w s₀ s₁ mg mb G Y fa o pm cd doc dV kV ho hd' hcd hD hmg hg args vals as hpre hlay hrd hwl hlo
  have KX := kIn_of Y
  have X := (Ground.X G).1
  have V := (Ground.X G).2
  refine Ground.open G ?_
  intro T B D TE TW
  try (refine guard_noD D (by decide +kernel) ?_; clear D)
  have hT9 := tabs_of KX
  clear hmg
  wrow_args hpre hlay hrd hwl hlo
  all_goals (
    first | refine callC_kw (enter_call ?_) | refine enter_call ?_ | refine callC_kw (enter_callW ?_) | refine enter_callW ?_ | w_how
    w_top on
    refine post_of hT9 (fun _ _ => rfl) (by kernel_rfl) ?_
    w_call any ho hd' hcd hD T F
    clear hd')
  have F' := ghost_fr hT9 F
  rename News _ _ _ _ => N
  have N' := ghost_news hT9 F N
  have T' := ghost_top hT9 T
  have X' := k9_ghost KX
  have B' := ghost_below hT9
  rename Heap.IsList _ _ _ => hL
  rename IntsAre _ _ => hI
  have hL' := ghost_list hT9 hL
  have l0 : @LT.lt Nat _ 389 s₁.heap.objs.size := Heap.lt_size (hT9 _ (.head _)).2
  generalize ghostOf s₁.heap [((393 : Nat), (389 : Nat))] = g₀ at F' N' T' X' B' hL' ⊢
  simp only [tabNews, List.map_cons, List.map_nil, List.nil_append, List.cons_append] at N'
  clear F N T KX hL G Y X V B TE TW hT9 ho hcd
  generalize hLs : s₁.heap.objs.size = L at *
  k_steps
  unfold Halt
  rename IsRange _ _ _ _ _ _ _ _ => rg
  rename News _ _ _ _ => N1
  rename Fr _ _ _ _ => F1
  rename_i oT oR0 oP0 oS0 hcT hcR hcP hcS XC D1 ws1 h1 hi1 hC1 hL1 l1a l1b h2 l1c h3 o3 d3 l4 h4 l1d h5 o5 d5 d6 h6 o6 lo6 hs6 fs6 hi6 fi6 lts h7 o7 F7 N7 d7 e7 hb7 h8 tk8 t8 u8 v8 a8
  have pf : (PySem.Challenge.rw_vj0024_01.row.prog.main.file == Str.ofString "/claim/cut.py") = true := by kernel_rfl
  have ps : (PySem.Challenge.rw_vj0024_01.row.prog.main.scope.names.lookup (Str.ofString "super")).isSome = false := by kernel_rfl
  have hrl : recursionLimit = 1000 := rfl
  have hcl : cLine = 9900 := rfl
  have h60 := List.length_take_le 60 ‹List Int›
  obtain ⟨q1, q2, q3, q4, q5⟩ := l1a
  obtain ⟨r1, r2, r3, r4, r5, r6⟩ := l1c
  obtain ⟨w1, w2, w3, w4, w5, w6, w7⟩ := l1d
  obtain ⟨z1, z2, z3, z4, z5, z6, z7, z8⟩ := lts
  obtain ⟨ta, tb, tc, td, N2⟩ : ∃ ta tb tc td, News g₀ L h8 ((d6, o6) :: (L + 1 + 1 + 1 + 1, oT) :: (L + 1 + 1 + 1, o7) :: (L + 1 + 1, o5) :: (L + 1, o3) :: ((389 : Nat), tabObj #[]) :: (l1b, listOf #[.ref D1, .int 0 ta] 0) :: (D1, listOf ws1.toArray 0) :: (l4, listOf [Value.int 0 tb, .int 0 tc, .int 0 td].toArray 0) :: []) :=
    ⟨_, _, _, _, List.forall_mem_cons.mpr ⟨N1 _ (by k_mem), List.forall_mem_cons.mpr ⟨N1 _ (by k_mem), List.forall_mem_cons.mpr ⟨N1 _ (by k_mem), List.forall_mem_cons.mpr ⟨N1 _ (by k_mem), List.forall_mem_cons.mpr ⟨N1 _ (by k_mem), List.forall_mem_cons.mpr ⟨N1 _ (by k_mem), List.forall_mem_cons.mpr ⟨N1 _ (by k_mem), List.forall_mem_cons.mpr ⟨N1 _ (by k_mem), List.forall_mem_cons.mpr ⟨N1 _ (by k_mem), (fun _ h => nomatch h)⟩⟩⟩⟩⟩⟩⟩⟩⟩⟩
  refine range_turns (n := 3) (LJ PySem.Challenge.rw_vj0024_01.row.prog w d6 (L + 1 + 1 + 1 + 1) (L + 1 + 1 + 1) (L + 1 + 1) (L + 1) l1b D1 l4 oT o7 o5 o3 ws1 0) rfl rg (by decide) (by decide) F1 N2 ?_ ?_ ?_
  · exact ⟨o6, _, 0, 0, _, 0, [], _, _, _, _, _, _, _, rfl, hs6, LS.start rfl, Int.le_refl _, Int.le_refl _, (fun _ h => nomatch h), (fun _ h => nomatch h), (fun _ h => nomatch h), (fun _ h => nomatch h), (fun _ h => nomatch h), (fun _ h => nomatch h), (fun _ h => nomatch h), (fun _ h => nomatch h), (fun _ h => nomatch h)⟩
  · rintro i ti m₁ nx h tk I oI hi ⟨od, pv, np, ii, tki, ns, rest, E, T, X, D, top, lo, kvs, rfl, hds, hLS, hi0, hi9, b1, b2, b3, b4, b5, b6, b7, b8, b9⟩ hIne F2 N2'
    clear F1 N1 N2 rg F7 N7 fs6 fi6 hi6
    have hln := hLS.len
    k_steps
    unfold Halt
    rename News _ _ _ _ => N3
    rename Fr _ _ _ _ => F3
    have ap : ∀ q ∈ [(I, oI), (d6, od), (L + 1 + 1 + 1 + 1, oT), (L + 1 + 1 + 1, o7), (L + 1 + 1, o5), (L + 1, o3), ((389 : Nat), tabObj #[])], ∀ r ∈ (l1b, listOf #[.ref D1, .int ii tki] ns) :: (D1, listOf ws1.toArray 0) :: (l4, listOf pv.toArray np) :: rest, q.1 ≠ r.1 := by
      have hI := fun r hr => hIne r (.tail _ (.tail _ (.tail _ (.tail _ (.tail _ (.tail _ hr))))))
      have hn := fun (q : Addr × Obj) (a : @Ne Nat q.1 l1b) (b : @Ne Nat q.1 D1) (c : @Ne Nat q.1 l4) (d : ∀ r ∈ rest, @Ne Nat r.1 q.1) => (List.forall_mem_cons.mpr ⟨a, List.forall_mem_cons.mpr ⟨b, List.forall_mem_cons.mpr ⟨c, fun r hr e => d r hr e.symm⟩⟩⟩ : ∀ r ∈ (l1b, listOf #[.ref D1, .int ii tki] ns) :: (D1, listOf ws1.toArray 0) :: (l4, listOf pv.toArray np) :: rest, q.1 ≠ r.1)
      refine List.forall_mem_cons.mpr ⟨fun r hr e => hI r hr e.symm, ?_⟩
      exact List.forall_mem_cons.mpr ⟨hn _ (by (dsimp only; omega)) (by (dsimp only; omega)) (by (dsimp only; omega)) b4, List.forall_mem_cons.mpr ⟨hn _ (by (dsimp only; omega)) (by (dsimp only; omega)) (by (dsimp only; omega)) b5, List.forall_mem_cons.mpr ⟨hn _ (by (dsimp only; omega)) (by (dsimp only; omega)) (by (dsimp only; omega)) b6, List.forall_mem_cons.mpr ⟨hn _ (by (dsimp only; omega)) (by (dsimp only; omega)) (by (dsimp only; omega)) b7, List.forall_mem_cons.mpr ⟨hn _ (by (dsimp only; omega)) (by (dsimp only; omega)) (by (dsimp only; omega)) b8, List.forall_mem_cons.mpr ⟨hn _ (by (dsimp only; omega)) (by (dsimp only; omega)) (by (dsimp only; omega)) b9, fun _ h => nomatch h⟩⟩⟩⟩⟩⟩
    refine told_use (xs := [(I, oI), (d6, od), (L + 1 + 1 + 1 + 1, oT), (L + 1 + 1 + 1, o7), (L + 1 + 1, o5), (L + 1, o3), ((389 : Nat), tabObj #[])]) (grown2 pf ps l1b D1 l4 ii _ _ tki ns 0 np _ ws1 pv _ rest E T X D hi1 hi0 (by omega) h60 (by omega) (by omega) (by omega) b1 b2 b3 (by omega) hln.1 (by omega) hLS.obj) B' F3 X' N3 T' rfl rfl rfl rfl (show callerA.depth + 1 + 130 < recursionLimit by decide) (show callerA.units + 3 + 1100 < cLine by decide) ap ?_ (fun _ _ _ _ _ _ _ _ _ _ h => h.elim)
    rintro r news2 h2' tk2 F4 N4 ap2 ⟨i2, ti2, n2, np2, pv2, rest2, E2, T2, X2, D2, tup, key, tkk, y, rfl, rfl, hmt, hi1', hi2', c1, c2, c3, g, hdd⟩
    obtain ⟨hg1, hg2⟩ := g.len
    have c4 : ∀ q ∈ rest2, @Ne Nat q.1 d6 := fun q hq e => ap2 _ (.tail _ (.head _)) q (.tail _ (.tail _ (.tail _ hq))) e.symm
    have c5 : ∀ q ∈ rest2, @Ne Nat q.1 (L + 1 + 1 + 1 + 1) := fun q hq e => ap2 _ (.tail _ (.tail _ (.head _))) q (.tail _ (.tail _ (.tail _ hq))) e.symm
    have c6 : ∀ q ∈ rest2, @Ne Nat q.1 (L + 1 + 1 + 1) := fun q hq e => ap2 _ (.tail _ (.tail _ (.tail _ (.head _)))) q (.tail _ (.tail _ (.tail _ hq))) e.symm
    have c7 : ∀ q ∈ rest2, @Ne Nat q.1 (L + 1 + 1) := fun q hq e => ap2 _ (.tail _ (.tail _ (.tail _ (.tail _ (.head _))))) q (.tail _ (.tail _ (.tail _ hq))) e.symm
    have c8 : ∀ q ∈ rest2, @Ne Nat q.1 (L + 1) := fun q hq e => ap2 _ (.tail _ (.tail _ (.tail _ (.tail _ (.tail _ (.head _)))))) q (.tail _ (.tail _ (.tail _ hq))) e.symm
    have c9 : ∀ q ∈ rest2, @Ne Nat q.1 389 := fun q hq e => ap2 _ (.tail _ (.tail _ (.tail _ (.tail _ (.tail _ (.tail _ (.head _))))))) q (.tail _ (.tail _ (.tail _ hq))) e.symm
    have c0 : ∀ q ∈ rest2, @Ne Nat q.1 I := fun q hq e => ap2 _ (.head _) q (.tail _ (.tail _ (.tail _ hq))) e.symm
    have hI6 : @Ne Nat d6 I := hIne _ (.head _)
    have hI4 : @Ne Nat l4 I := hIne (l4, _) (by k_mem)
    simp only [List.cons_append, List.nil_append] at N4
    clear F3 N3
    k_steps
    unfold Halt
    rename News _ _ _ _ => N5
    rename Fr _ _ _ _ => F5
    try dsimp only at N5 ⊢
    refine kda_set F5 N5 (by k_updF) hds (strKind_is _ _ _ _) (by rw [hLS.dict, List.length_map, List.length_range]; exact Nat.le_trans (Nat.le_of_lt hi) (by decide)) fun h6' o6' F6 N6 hd6 => ?_
    k_steps
    try dsimp only at N6 ⊢
    rename_i T0 hA qT hB kx
    clear F5 N5
    unfold TurnBack
    obtain ⟨s1, s2, s3, s4, s5, s6, s7, s8, s9, s10, s11⟩ := qT
    refine ⟨h6', _, _, _, rfl, F6, fun q hq => N6 q ((List.perm_middle (l₁ := [(I, oI), (d6, o6'), (L + 1 + 1 + 1 + 1, oT), (L + 1 + 1 + 1, o7), (L + 1 + 1, o5), (L + 1, o3), ((389 : Nat), tabObj #[]), (l1b, _), (D1, _), (l4, _)])).mem_iff.mp hq), fun p hp q hq => ?_, LJ.turn hLS hi g (hdd rfl) hd6 (by omega) (by omega) c1 c2 c3 c4 c5 c6 c7 c8 c9 s8 s9 s10 s2 s3 s4 s5 s6 s7⟩
    rw [List.mem_singleton.mp hq]
    refine (List.forall_mem_cons.mpr ⟨hIne (d6, od) (by k_mem), List.forall_mem_cons.mpr ⟨hIne (L + 1 + 1 + 1 + 1, _) (by k_mem), List.forall_mem_cons.mpr ⟨hIne (L + 1 + 1 + 1, _) (by k_mem), List.forall_mem_cons.mpr ⟨hIne (L + 1 + 1, _) (by k_mem), List.forall_mem_cons.mpr ⟨hIne (L + 1, _) (by k_mem), List.forall_mem_cons.mpr ⟨hIne (389, _) (by k_mem), List.forall_mem_cons.mpr ⟨hIne (l1b, listOf #[.ref D1, .int ii tki] ns) (by k_mem), List.forall_mem_cons.mpr ⟨hIne (D1, _) (by k_mem), List.forall_mem_cons.mpr ⟨hIne (l4, listOf pv.toArray np) (by k_mem), List.forall_mem_cons.mpr ⟨Nat.ne_of_gt s1, c0⟩⟩⟩⟩⟩⟩⟩⟩⟩⟩ : ∀ p ∈ _, p.1 ≠ I) p hp
  · rintro m₁ nx h tk ⟨od, pv, np, ii, tki, ns, rest, E, T, X, D, top, lo, kvs, rfl, hds, hLS, hi0, hi9, b1, b2, b3, b4, b5, b6, b7, b8, b9⟩ F2 N2'
    clear F1 N1 N2 rg F7 N7 fs6 fi6 hi6 XC hcR hcP hcS
    try dsimp only at F2 N2' ⊢
    k_steps
    unfold Halt
    rename Fr _ _ _ _ => F3
    rename News _ _ _ _ => N3
    refine LCg.ListComp_U (F₀ := F3) (by with_unfolding_all rfl) (by decide) (by rfl) (by decide) (by rfl) ?_
    k_steps
    unfold Halt
    rename IsRange _ _ _ _ _ _ _ _ => rg
    rename Fr _ _ _ _ => F4
    rename News _ _ _ _ => N4
    rename (0 : Int) ≤ _ => hv0
    rename _ < (6 : Int) => hv1
    obtain ⟨n, rfl⟩ := Int.eq_ofNat_of_zero_le hv0
    have hn5 : n ≤ 5 := by omega
    refine LCg.CompSrc.range (n := n) rfl F4 N4 rg (small_upto hn5).1 (small_upto hn5).2 (by rw [sizeLine_eq]; omega) fun g' => ?_
    refine comp_inv (JT d6 (L + 1 + 1 + 1 + 1) (L + 1 + 1 + 1) (L + 1 + 1) (L + 1) l1b D1 l4 od oT o7 o5 o3 ws1 pv 0 np rest) ⟨_, _, _, [], rfl, (by omega), (by omega), .nil, rfl, (fun _ h => nomatch h)⟩ ?_ ?_
    · rintro i v I oI C oC Dd m₂ ys nx h9 tk9 E' hi ⟨t, rfl⟩ hoC hm₂ F5 N5 off ⟨nIC, nID, nCD⟩ ⟨ii', tki', ns', xs, rfl, hii0, hii1, hxs, hxl, hx1⟩
      clear F4 N4 rg
      simp only [List.cons_append, List.nil_append] at N5
      have offI := off _ (.head _)
      have offC := off _ (.tail _ (.head _))
      have offD := off _ (.tail _ (.tail _ (.head _)))
      have nI1 : @Ne Nat I l1b := offI _ (.tail _ (.tail _ (.tail _ (.tail _ (.tail _ (.tail _ (.head _)))))))
      have nC1 : @Ne Nat C l1b := offC _ (.tail _ (.tail _ (.tail _ (.tail _ (.tail _ (.tail _ (.head _)))))))
      have nD1 : @Ne Nat Dd l1b := offD _ (.tail _ (.tail _ (.tail _ (.tail _ (.tail _ (.tail _ (.head _)))))))
      k_steps
      rename_i v2 tv2 tn2 h2 tk2 hw0 hw1 F6 N6 klen
      refine ⟨h2, _, _, rfl, F6, N6, off.same rfl, trivial, _, _, _, xs ++ [_], rfl, by omega, by omega, kct_snoc hxs, by simp [hxl], fun x hx => ?_⟩
      rcases List.mem_append.mp hx with hx | hx
      · exact hx1 x hx
      · rw [List.mem_singleton.mp hx]; exact klen
    · rintro ys nx hyl ⟨ii', tki', ns', xs, rfl, hii0, hii1, hxs, hxl, hx1⟩
      clear F4 N4 rg
      k_steps
      unfold Halt
      rename_i Dj hj tkj Fj Nj oj
      obtain ⟨oj1, oj2, oj3, oj4, oj5, oj6, oj7, oj8, oj9, oj0⟩ := oj
      refine KT.join_1 (l := xs) (g := fun x => x) (PySem.IsL.isList (n := ys.length) (Nj _ (.head _)).1) hxs.carried hx1 (by omega) fun tt ttk hlen => ?_
      rw [List.map_id'] at hlen ⊢
      generalize htx : Txt.join (Str.ofString "") xs = text at hlen ⊢
      rw [hxl] at hlen
      clear htx
      k_steps
      unfold Halt
      rename_i hX oT2 dT2 tkX v2 tv2 tu2 hY tkY hw0 hw1 SS hZ lSS hW F7 N7
      obtain ⟨p2, rfl⟩ := Int.eq_ofNat_of_zero_le hw0
      have hp2 : p2 ≤ text.length := by omega
      obtain ⟨t0, t1, t2, mr, rfl⟩ := rules_exact hds hLS.dict
      obtain ⟨y1, y2, y3, y4, y5, y6, y7, y8, y9, y10, y11⟩ := lSS
      have N8 : News g₀ L hW ([(SS, listOf #[.int 0 tkX, .int (p2 : Nat) tv2] 0), (L + 1 + 1 + 1 + 1, oT2), (L + 1 + 1 + 1, o7), (L + 1 + 1, o5), (l4, listOf pv.toArray np)] ++ ((d6, rulesObj w (X (top 0)) (X (top 1)) (X (top 2)) t0 t1 t2 mr) :: ((389 : Nat), tabObj #[]) :: rest)) :=
        List.forall_mem_cons.mpr ⟨N7 _ (by k_mem), List.forall_mem_cons.mpr ⟨N7 _ (by k_mem), List.forall_mem_cons.mpr ⟨N7 _ (by k_mem), List.forall_mem_cons.mpr ⟨N7 _ (by k_mem), List.forall_mem_cons.mpr ⟨N7 _ (by k_mem), List.forall_mem_cons.mpr ⟨N7 _ (by k_mem), List.forall_mem_cons.mpr ⟨N7 _ (by k_mem), fun q hq => N7 q (by (repeat (refine List.Mem.tail _ ?_)); exact hq)⟩⟩⟩⟩⟩⟩⟩
      have off8 : Off [(SS, listOf #[.int 0 tkX, .int (p2 : Nat) tv2] 0), (L + 1 + 1 + 1 + 1, oT2), (L + 1 + 1 + 1, o7), (L + 1 + 1, o5), (l4, listOf pv.toArray np)] ((d6, rulesObj w (X (top 0)) (X (top 1)) (X (top 2)) t0 t1 t2 mr) :: ((389 : Nat), tabObj #[]) :: rest) := by
        have hn := fun (z : Addr) (a : @Ne Nat z d6) (b : @Ne Nat z 389) (c : ∀ r ∈ rest, @Ne Nat r.1 z) => (List.forall_mem_cons.mpr ⟨a, List.forall_mem_cons.mpr ⟨b, fun r hr e => c r hr e.symm⟩⟩ : ∀ r ∈ (d6, rulesObj w (X (top 0)) (X (top 1)) (X (top 2)) t0 t1 t2 mr) :: ((389 : Nat), tabObj #[]) :: rest, @Ne Nat z r.1)
        exact List.forall_mem_cons.mpr ⟨hn SS (by omega) (by omega) fun r hr => Nat.ne_of_lt (tb_ltOf y11 r hr), List.forall_mem_cons.mpr ⟨hn _ (by omega) (by omega) b5, List.forall_mem_cons.mpr ⟨hn _ (by omega) (by omega) b6, List.forall_mem_cons.mpr ⟨hn _ (by omega) (by omega) b7, List.forall_mem_cons.mpr ⟨hn _ (by omega) (by omega) b3, fun _ h => nomatch h⟩⟩⟩⟩⟩
      clear N7 Nj Fj oj0 oj1 oj2 oj3 oj4 oj5 oj6 oj7 oj8 oj9 hxs hxl hx1 hyl
      have hln := hLS.len
      rename Fr _ _ _ _ => F7
      refine for_strG (h₀ := g₀) (y := Str.ofString "pqr") (JR w [(SS, listOf #[.int 0 tkX, .int (p2 : Nat) tv2] 0), (L + 1 + 1 + 1 + 1, oT2), (L + 1 + 1 + 1, o7), (L + 1 + 1, o5), (l4, listOf pv.toArray np)] d6 pv.length E T X D top s₁.gens) rfl (by decide +kernel) (by rfl) (by rfl) ?_
      refine wpAny_Constant_str ?_
      refine ⟨_, _, _, rfl, ⟨_, _, rfl⟩, F7, N8, ?_, ?_, ?_⟩
      · have sub : ∀ q ∈ rest, q ∈ (d6, rulesObj w (X (top 0)) (X (top 1)) (X (top 2)) t0 t1 t2 mr) :: ((389 : Nat), tabObj #[]) :: rest := fun q hq => .tail _ (.tail _ hq)
        exact ⟨_, [], rfl, off8, hLS.start_rs sub (ps := #[]) trivial (.tail _ (.head _)) (.head _), hLS.tups sub, (fun j h => by omega), (fun _ h => nomatch h), GensOk.refl _⟩
      · rintro i c u I oI m₂ nx h9 tk9 gs E' hc hmz ⟨nx2, S, rfl, off2, R, hT, htop, hS, hgs⟩ oI9 F N
        obtain ⟨hi3, hnm⟩ := name_sign hc
        rw [hnm] at F
        clear N8 F7
        have NN := N
        simp only [List.cons_append, List.nil_append] at N
        obtain ⟨u0, u1, u2, um, hrm⟩ := R.rules
        obtain ⟨tt1, tt2, tt3⟩ := hLS.tops i hi3
        obtain ⟨tc1, tc2, tc3⟩ := two_cls tt3
        obtain ⟨⟨sl, hm'⟩, hnr⟩ := R.at (fun k h => if_neg (by omega)) tt1 tt2
        have hd' := R.dict (top i) tt1 tt2
        k_steps
        unfold Halt
        refine kda_item (knd := PySem.strKind _ w) N (by (repeat (refine List.Mem.tail _ ?_)); exact hrm) (rules_isdict (prog := PySem.Challenge.rw_vj0024_01.row.prog) (X := X) (top := top)) (strKind_is _ _ _ _) (valueAt_rules hi3) ?_
        k_steps
        unfold Halt
        refine rr_K F X' N (by (repeat (refine List.Mem.tail _ ?_)); exact hm') (by (repeat (refine List.Mem.tail _ ?_)); exact hd') tc3 ?_
        k_steps
        unfold Halt
        have hrl : recursionLimit = 1000 := rfl
        have hcl : cLine = 9900 := rfl
        have hcd : callerA.depth + 1 ≤ 310 := by decide
        have hcu : callerA.units + 3 ≤ 1000 := by decide
        have TG := res_told (prog := PySem.Challenge.rw_vj0024_01.row.prog) hLS.sit (top i) tt1 tt2 S nx2 (JR.pre hLS hi3 hS) R
        rw [tc2] at TG
        refine toldG_use (xs := (I, oI) :: [(SS, listOf #[.int 0 tkX, .int (p2 : Nat) tv2] 0), (L + 1 + 1 + 1 + 1, oT2), (L + 1 + 1 + 1, o7), (L + 1 + 1, o5), (l4, listOf pv.toArray np)]) TG B' F X' N T' rfl rfl rfl rfl (show callerA.depth + 1 + (120 + 20 * top i) < recursionLimit by omega) (show callerA.units + 3 + (960 + 60 * top i) < cLine by omega) ?_ ?_
        · intro q hq r hr
          rcases List.mem_cons.mp hq with rfl | hq
          · exact Ne.symm (oI9 r (List.mem_append_right _ hr))
          · exact off2 q hq r hr
        · intro r news' h2 tk2 gs2 F2 N2 ap2 hg2 hr2 _
          refine wpAny_pure ⟨rfl, h2, tk2, _, _, gs2, rfl, F2, (fun z hz => (if_neg hz).trans (hmz z hz)), N2, fun p hp => ?_, JR.turn hLS hi3 (fun q hq => NN q (.tail _ (List.mem_append_right _ hq))) R hT htop hS hgs hg2 (fun p hp => ap2 p (.tail _ hp)) hr2⟩
          rcases List.mem_append.mp hp with hp | hp
          · exact oI9 p (List.mem_append_left _ hp)
          · exact Ne.symm (ap2 _ (.head _) p hp)
      · intro m₂ nx h9 tk9 gs ⟨nx2, S, e, off2, R, hT, htop, hS, hgs⟩ hmz F N
        subst e
        clear N8 F7 off8
        have hq3 : (Str.ofString "pqr").cps.size = 3 := by decide +kernel
        rw [hq3] at htop
        obtain ⟨MS, hkids⟩ := hLS.mstat R htop
        obtain ⟨op, ps, h389, hpd, hpt, rfl⟩ := R.tab
        obtain ⟨u0, u1, u2, um, hrm⟩ := R.rules
        have N2 : News g₀ L h9 nx2 := fun q hq => N q (List.mem_append_right _ hq)
        obtain ⟨Q1, Q2, Q3, Q4, Q5⟩ := parts N2 hT h389 hrm R.dict (fun k hk => ⟨rtOf top k, (hLS.rt (ksOf_lt hln.1 hk)).1, (hLS.rt (ksOf_lt hln.1 hk)).2, rfl⟩) MS
        have F9 : Fr g₀ L h9 (fun z => if z = Str.ofString "starts" then some (.ref SS) else m₂ z) := by
          have e : (fun z => if z = Str.ofString "starts" then some (.ref SS) else m₂ z) = m₂ := by
            funext z
            split
            · rename_i z e
              rw [e, hmz _ (by decide +kernel)]; exact (if_pos rfl).symm
            · rfl
          rw [e]; exact F
        clear F hmz
        (try dsimp only)
        k_steps
        unfold Halt
        refine Assign_ListComp_2 (m := fun z => if z = Str.ofString "starts" then some (.ref SS) else m₂ z) (h₀ := g₀) (L := L) rfl (by with_unfolding_all rfl) (by with_unfolding_all rfl) (by decide) (by rfl) (by decide) (by rfl) (by rfl) (by decide) (fun _ _ => rfl) (by rfl) (by rfl) ?_
        k_steps
        unfold Halt
        have hn24 : pv.length ≤ 24 := by omega
        have xsOff : ∀ nx3 : Led1, (∀ q ∈ nx3, @Ne Nat q.1 389 ∧ @Ne Nat q.1 d6) → (∀ q ∈ nx3, q ∈ nx2) → Off [(L + 1 + 1 + 1 + 1, oT2), (L + 1 + 1 + 1, o7), (L + 1 + 1, o5), ((389 : Nat), tabObj ps), (d6, rulesObj w (xrOf X top 0) (xrOf X top 1) (xrOf X top 2) u0 u1 u2 um)] nx3 := fun nx3 h1 h2 =>
          List.forall_mem_cons.mpr ⟨fun q hq => off2 _ (.tail _ (.head _)) q (h2 q hq), List.forall_mem_cons.mpr ⟨fun q hq => off2 _ (.tail _ (.tail _ (.head _))) q (h2 q hq), List.forall_mem_cons.mpr ⟨fun q hq => off2 _ (.tail _ (.tail _ (.tail _ (.head _)))) q (h2 q hq), List.forall_mem_cons.mpr ⟨fun q hq => Ne.symm (h1 q hq).1, List.forall_mem_cons.mpr ⟨fun q hq => Ne.symm (h1 q hq).2, fun _ h => nomatch h⟩⟩⟩⟩⟩
        have tsub : ∀ q ∈ tupsOf T pv.length nx2, q ∈ nx2 := fun q hq => (List.mem_filter.mp hq).1
        have psub : ∀ q ∈ pcsOf T pv.length d6 nx2, q ∈ nx2 := fun q hq => (List.mem_filter.mp hq).1
        refine ⟨SS, listOf #[.int 0 tkX, .int (p2 : Nat) tv2] 0, #[.int 0 tkX, .int (p2 : Nat) tv2], 3, fun j v => ∃ t, v = .int (0 + (j : Nat)) t, JD ([(L + 1 + 1 + 1 + 1, oT2), (L + 1 + 1 + 1, o7), (L + 1 + 1, o5), ((389 : Nat), tabObj ps), (d6, rulesObj w (xrOf X top 0) (xrOf X top 1) (xrOf X top 2) u0 u1 u2 um)] ++ pcsOf T pv.length d6 nx2) l4 pv.length E T (askOf E top) (atT text) text.length p2,
          ([(L + 1 + 1 + 1 + 1, oT2), (L + 1 + 1 + 1, o7), (L + 1 + 1, o5), ((389 : Nat), tabObj ps), (d6, rulesObj w (xrOf X top 0) (xrOf X top 1) (xrOf X top 2) u0 u1 u2 um)] ++ pcsOf T pv.length d6 nx2) ++ ((l4, listOf pv.toArray np) :: tupsOf T pv.length nx2), rfl, ⟨rfl, F9, ?_, ?_, ⟨rfl, _, rfl⟩, ?_, ?_, ?_, ?_, ?_⟩, ?_⟩
        · refine List.forall_mem_cons.mpr ⟨N _ (.head _), fun q hq => ?_⟩
          rcases List.mem_append.mp hq with hq | hq
          · rcases List.mem_append.mp hq with hq | hq
            · refine (List.forall_mem_cons.mpr ⟨N _ (.tail _ (.head _)), List.forall_mem_cons.mpr ⟨N _ (.tail _ (.tail _ (.head _))), List.forall_mem_cons.mpr ⟨N _ (.tail _ (.tail _ (.tail _ (.head _)))), List.forall_mem_cons.mpr ⟨N2 _ h389, List.forall_mem_cons.mpr ⟨N2 _ hrm, fun _ h => nomatch h⟩⟩⟩⟩⟩ : News g₀ L h9 [(L + 1 + 1 + 1 + 1, oT2), (L + 1 + 1 + 1, o7), (L + 1 + 1, o5), ((389 : Nat), tabObj ps), (d6, rulesObj w (xrOf X top 0) (xrOf X top 1) (xrOf X top 2) u0 u1 u2 um)]) q hq
            · exact N2 q (psub q hq)
          · rcases List.mem_cons.mp hq with rfl | hq
            · exact N _ (.tail _ (.tail _ (.tail _ (.tail _ (.head _)))))
            · exact N2 q (tsub q hq)
        · intro q hq
          rcases List.mem_append.mp hq with hq | hq
          · rcases List.mem_append.mp hq with hq | hq
            · refine (List.forall_mem_cons.mpr ⟨by (dsimp only; omega), List.forall_mem_cons.mpr ⟨by (dsimp only; omega), List.forall_mem_cons.mpr ⟨by (dsimp only; omega), List.forall_mem_cons.mpr ⟨by (dsimp only; omega), List.forall_mem_cons.mpr ⟨by (dsimp only; omega), fun _ h => nomatch h⟩⟩⟩⟩⟩ : ∀ q ∈ [(L + 1 + 1 + 1 + 1, oT2), (L + 1 + 1 + 1, o7), (L + 1 + 1, o5), ((389 : Nat), tabObj ps), (d6, rulesObj w (xrOf X top 0) (xrOf X top 1) (xrOf X top 2) u0 u1 u2 um)], @Ne Nat SS q.1) q hq
            · exact off2 _ (.head _) q (psub q hq)
          · rcases List.mem_cons.mp hq with rfl | hq
            · exact (Nat.ne_of_gt y10)
            · exact off2 _ (.head _) q (tsub q hq)
        · show 2 * 3 ≤ sizeLine
          rw [sizeLine_eq]; omega
        · refine ⟨_, rfl, fun p hp q hq => ?_, ⟨⟨np, by rw [← hLS.pv_eq]; exact .head _⟩, fun k hk => (Q1 k hk).mono fun q hq _ => .tail _ hq⟩, rfl, (fun m v e => by simp at e)⟩
          rcases List.mem_append.mp hp with hp | hp
          · rcases List.mem_cons.mp hq with rfl | hq
            · refine (List.forall_mem_cons.mpr ⟨by (dsimp only; omega), List.forall_mem_cons.mpr ⟨by (dsimp only; omega), List.forall_mem_cons.mpr ⟨by (dsimp only; omega), List.forall_mem_cons.mpr ⟨by (dsimp only; omega), List.forall_mem_cons.mpr ⟨by (dsimp only; omega), fun _ h => nomatch h⟩⟩⟩⟩⟩ : ∀ q ∈ [(L + 1 + 1 + 1 + 1, oT2), (L + 1 + 1 + 1, o7), (L + 1 + 1, o5), ((389 : Nat), tabObj ps), (d6, rulesObj w (xrOf X top 0) (xrOf X top 1) (xrOf X top 2) u0 u1 u2 um)], @Ne Nat q.1 l4) p hp
            · exact xsOff _ Q4 tsub p hp q hq
          · rcases List.mem_cons.mp hq with rfl | hq
            · exact Ne.symm (off2 _ (.tail _ (.tail _ (.tail _ (.tail _ (.head _))))) p (psub p hp))
            · exact Ne.symm (Q3 q hq p hp)
        · rintro i ys nx hi ⟨nx3, e, o3, ps3, hl3, hd3⟩
          exact ⟨nx3, e, o3, ps3, by omega, hd3⟩
        · rintro C i v0 oC mC ys own nx h tk hi hCo hoC hm0 F N3 off3 hJ
          unfold InnerSrc
          intro E' Q' hQ
          k_steps
          rename_i h5 tk5 t5 u5 w5 rg F5 N5 k5
          have hn3 : Builtin.Range.rangeSize 0 3 1 = 3 := by decide +kernel
          refine wpAny_pyIter_range rg (by decide +kernel) ?_
          refine hQ _ (fun i h => IsRangeIter h h5.objs.size (0 + (i : Nat) * 1) ((3 : Int) - (i : Nat)) 1) _ _ (LCg.range_walks rfl 0 3) (fun i h st => ⟨_, st⟩) (by show IsRangeIter _ _ _ _ _; rw [hn3]; simpa using Heap.get?_push_size _ rfl) ?_ (fun b o e => Heap.get?_push_of_some _ (k5 b o e))
          · cases e : h.get? h5.objs.size with
            | none => rfl
            | some o => exact absurd (Heap.lt_size (k5 _ _ e)) (Nat.lt_irrefl _)
        · rintro C i j v0 v1 oC mC ys own nx h tk E' hi hj ⟨tj, rfl⟩ hCo hoC hm0 hm1 F N3 off3 ⟨nx3, rfl, o3, ps3, hl3, hd3⟩
          obtain ⟨hi2, ti, rfl⟩ := its_two hi
          have mX : ∀ q ∈ [(L + 1 + 1 + 1 + 1, oT2), (L + 1 + 1 + 1, o7), (L + 1 + 1, o5), ((389 : Nat), tabObj ps), (d6, rulesObj w (xrOf X top 0) (xrOf X top 1) (xrOf X top 2) u0 u1 u2 um)], q ∈ own ++ (([(L + 1 + 1 + 1 + 1, oT2), (L + 1 + 1 + 1, o7), (L + 1 + 1, o5), ((389 : Nat), tabObj ps), (d6, rulesObj w (xrOf X top 0) (xrOf X top 1) (xrOf X top 2) u0 u1 u2 um)] ++ pcsOf T pv.length d6 nx2) ++ nx3) := fun q hq => List.mem_append_right _ (List.mem_append_left _ (List.mem_append_left _ hq))
          have N4 : News g₀ L h ((C, oC) :: (L + 1 + 1 + 1 + 1, oT2) :: (L + 1 + 1, o5) :: (own ++ (([(L + 1 + 1 + 1 + 1, oT2), (L + 1 + 1 + 1, o7), (L + 1 + 1, o5), ((389 : Nat), tabObj ps), (d6, rulesObj w (xrOf X top 0) (xrOf X top 1) (xrOf X top 2) u0 u1 u2 um)] ++ pcsOf T pv.length d6 nx2) ++ nx3))) :=
            List.forall_mem_cons.mpr ⟨N3 _ (List.mem_append_left _ hCo), List.forall_mem_cons.mpr ⟨N3 _ (mX _ (.head _)), List.forall_mem_cons.mpr ⟨N3 _ (mX _ (.tail _ (.tail _ (.head _)))), N3⟩⟩⟩
          clear N3 mX
          k_steps
          unfold Halt
          rename_i sd h5 od5 F5 N5 lo5 hs5 fs5 hi5 fi5 l15
          rw [Int.zero_add]
          have hrl : recursionLimit = 1000 := rfl
          have hcl : cLine = 9900 := rfl
          have hcd : callerA.depth + 1 ≤ 310 := by decide
          have hcu : callerA.units + 3 ≤ 1000 := by decide
          have hpl : dueAt p2 (3 * i) ≤ text.length := by unfold dueAt; split <;> omega
          have N6 : News g₀ L h5 ((own ++ ([(L + 1 + 1 + 1 + 1, oT2), (L + 1 + 1 + 1, o7), (L + 1 + 1, o5), ((389 : Nat), tabObj ps), (d6, rulesObj w (xrOf X top 0) (xrOf X top 1) (xrOf X top 2) u0 u1 u2 um)] ++ pcsOf T pv.length d6 nx2)) ++ ((sd, od5) :: nx3)) := fun q hq => by
            rcases List.mem_append.mp hq with hq | hq
            · refine N5 q (.tail _ (.tail _ (.tail _ (.tail _ ?_))))
              rcases List.mem_append.mp hq with hq | hq
              · exact List.mem_append_left _ hq
              · exact List.mem_append_right _ (List.mem_append_left _ hq)
            · rcases List.mem_cons.mp hq with rfl | hq
              · exact N5 _ (.head _)
              · exact N5 q (.tail _ (.tail _ (.tail _ (.tail _ (List.mem_append_right _ (List.mem_append_right _ hq))))))
          have lt5 := tb_ltOf l15.2.2.2
          have hleft := left_le pv.length text.length (fun _ _ => none)
          have hl144 : left pv.length text.length (fun _ _ => none) ≤ 144 := Nat.le_trans hleft (Nat.le_trans (Nat.mul_le_mul hn24 (show text.length + 1 ≤ 6 by omega)) (by decide))
          have RD := read_told (prog := PySem.Challenge.rw_vj0024_01.row.prog) (w := w) (pl := l4) (sd := sd) (n := pv.length) (len := text.length) (E := E) (T := T) (P := askOf E top) (val := fun _ => True) (at_ := atT text) (text := text) hLS.wf (by omega) (fun x p hp h => atT_le hp h) (fun x p => rfl) rfl (by omega) (left pv.length text.length (fun _ _ => none))
            (fun _ _ => none) j (dueAt p2 (3 * i)) tj tt ti ((sd, od5) :: nx3) (by omega) trivial hpl (fun _ _ _ h => nomatch h) (Nat.le_refl _)
            ⟨ps3.mono fun q hq _ => .tail _ hq, ⟨[], TupTab.ofEmpty (.head _) lo5 hi5, (fun _ _ => rfl), (by rw [List.length_nil, Nat.zero_add]; exact hleft)⟩, ?_⟩
          · refine told_use (xs := own ++ ([(L + 1 + 1 + 1 + 1, oT2), (L + 1 + 1 + 1, o7), (L + 1 + 1, o5), ((389 : Nat), tabObj ps), (d6, rulesObj w (xrOf X top 0) (xrOf X top 1) (xrOf X top 2) u0 u1 u2 um)] ++ pcsOf T pv.length d6 nx2)) RD B' F5 X' N6 T' rfl rfl rfl rfl (show callerA.depth + 1 + (4 * left pv.length text.length (fun _ _ => none) + 4) < recursionLimit by omega) (show callerA.units + 3 + (32 * left pv.length text.length (fun _ _ => none) + 40) < cLine by omega) ?_ ?_ (fun _ _ _ _ _ _ _ _ _ _ h => h.elim)
            · intro q hq r hr
              rcases List.mem_cons.mp hr with rfl | hr
              · refine Nat.ne_of_lt (lt5 q ?_)
                rcases List.mem_append.mp hq with hq | hq
                · exact List.mem_append_left _ hq
                · exact List.mem_append_right _ (List.mem_append_left _ hq)
              · rcases List.mem_append.mp hq with hq | hq
                · exact off3 q hq r (List.mem_append_right _ hr)
                · exact o3 q hq r hr
            · rintro r news' h2 tk2 F2 N2' ap2 ⟨v, t, mm', rfl, hR, S2⟩
              show ElEnd g₀ L _ _ own _ _ _
              refine ⟨h2, _, ([(L + 1 + 1 + 1 + 1, oT2), (L + 1 + 1 + 1, o7), (L + 1 + 1, o5), ((389 : Nat), tabObj ps), (d6, rulesObj w (xrOf X top 0) (xrOf X top 1) (xrOf X top 2) u0 u1 u2 um)] ++ pcsOf T pv.length d6 nx2) ++ news', rfl, F2, by rw [← List.append_assoc]; exact N2', fun p hp q hq => ?_, news', rfl, fun p hp q hq => ap2 p (List.mem_append_right _ hp) q hq, S2.stat, by rw [List.length_append, hl3]; rfl, hd3.snoc hl3 hj rfl hR⟩
              rcases List.mem_append.mp hq with hq | hq
              · exact off3 p hp q (List.mem_append_left _ hq)
              · exact ap2 p (List.mem_append_left _ hp) q hq
          · have up : ∀ q ∈ nx3, @LT.lt Nat _ q.1 sd := fun q hq => lt5 q (List.mem_append_right _ (List.mem_append_right _ hq))
            refine ⟨?_, fun k hk => ?_⟩
            · obtain ⟨np', hm⟩ := ps3.list
              exact Nat.ne_of_lt (up _ hm)
            · obtain ⟨o, ho, _⟩ := (ps3.tup k hk).ex
              exact Nat.ne_of_lt (up _ ho)
        · rintro Dd h tk ys nx F N3 off3 nSD ⟨nx3, rfl, o3, ps3, hl3, hd3⟩ hyl
          (try dsimp only)
          k_steps
          unfold Halt
          refine ListComp_2 (m := fun z => if z = Str.ofString "due" then some (.ref Dd) else if z = Str.ofString "starts" then some (.ref SS) else m₂ z) (h₀ := g₀) (L := L) (by with_unfolding_all rfl) (by decide) (by rfl) (by decide) (by rfl) (by rfl) (by decide) (fun _ _ => rfl) ?_
          k_steps
          unfold Halt
          have hyl6 : ys.length = 6 := hyl
          refine ⟨SS, listOf #[.int 0 tkX, .int (p2 : Nat) tv2] 0, #[.int 0 tkX, .int (p2 : Nat) tv2], 3, SignAt (Str.ofString "pqr"), JMt [(Dd, LCg.lst ys), (L + 1 + 1 + 1 + 1, oT2), (L + 1 + 1 + 1, o7), ((389 : Nat), tabObj ps), (d6, rulesObj w (xrOf X top 0) (xrOf X top 1) (xrOf X top 2) u0 u1 u2 um)] (xrOf X top) (fun k => D (rtOf top k)) (askOf E top) (ksOf top pv.length S) (atT text) text.length p2,
            [(Dd, LCg.lst ys), (L + 1 + 1 + 1 + 1, oT2), (L + 1 + 1 + 1, o7), ((389 : Nat), tabObj ps), (d6, rulesObj w (xrOf X top 0) (xrOf X top 1) (xrOf X top 2) u0 u1 u2 um)] ++ pcsOf T pv.length d6 nx2, rfl, ⟨rfl, F, ?_, ?_, ⟨rfl, _, rfl⟩, ?_, ?_, ?_, ?_, ?_⟩, ?_⟩
          · refine List.forall_mem_cons.mpr ⟨N3 _ (.tail _ (.head _)), fun q hq => ?_⟩
            rcases List.mem_append.mp hq with hq | hq
            · have mX : ∀ q ∈ [(L + 1 + 1 + 1 + 1, oT2), (L + 1 + 1 + 1, o7), (L + 1 + 1, o5), ((389 : Nat), tabObj ps), (d6, rulesObj w (xrOf X top 0) (xrOf X top 1) (xrOf X top 2) u0 u1 u2 um)], q ∈ [(Dd, LCg.lst ys), (SS, listOf #[.int 0 tkX, .int (p2 : Nat) tv2] 0)] ++ (([(L + 1 + 1 + 1 + 1, oT2), (L + 1 + 1 + 1, o7), (L + 1 + 1, o5), ((389 : Nat), tabObj ps), (d6, rulesObj w (xrOf X top 0) (xrOf X top 1) (xrOf X top 2) u0 u1 u2 um)] ++ pcsOf T pv.length d6 nx2) ++ nx3) := fun q hq => List.mem_append_right _ (List.mem_append_left _ (List.mem_append_left _ hq))
              exact (List.forall_mem_cons.mpr ⟨N3 _ (.head _), List.forall_mem_cons.mpr ⟨N3 _ (mX _ (.head _)), List.forall_mem_cons.mpr ⟨N3 _ (mX _ (.tail _ (.head _))), List.forall_mem_cons.mpr ⟨N3 _ (mX _ (.tail _ (.tail _ (.tail _ (.head _))))), List.forall_mem_cons.mpr ⟨N3 _ (mX _ (.tail _ (.tail _ (.tail _ (.tail _ (.head _)))))), fun _ h => nomatch h⟩⟩⟩⟩⟩ : News g₀ L h [(Dd, LCg.lst ys), (L + 1 + 1 + 1 + 1, oT2), (L + 1 + 1 + 1, o7), ((389 : Nat), tabObj ps), (d6, rulesObj w (xrOf X top 0) (xrOf X top 1) (xrOf X top 2) u0 u1 u2 um)]) q hq
            · exact N3 q (List.mem_append_right _ (List.mem_append_left _ (List.mem_append_right _ hq)))
          · intro q hq
            rcases List.mem_append.mp hq with hq | hq
            · refine (List.forall_mem_cons.mpr ⟨nSD, List.forall_mem_cons.mpr ⟨by (dsimp only; omega), List.forall_mem_cons.mpr ⟨by (dsimp only; omega), List.forall_mem_cons.mpr ⟨by (dsimp only; omega), List.forall_mem_cons.mpr ⟨by (dsimp only; omega), fun _ h => nomatch h⟩⟩⟩⟩⟩ : ∀ q ∈ [(Dd, LCg.lst ys), (L + 1 + 1 + 1 + 1, oT2), (L + 1 + 1 + 1, o7), ((389 : Nat), tabObj ps), (d6, rulesObj w (xrOf X top 0) (xrOf X top 1) (xrOf X top 2) u0 u1 u2 um)], @Ne Nat SS q.1) q hq
            · exact off2 _ (.head _) q (psub q hq)
          · show 2 * 3 ≤ sizeLine
            rw [sizeLine_eq]; omega
          · refine ⟨_, rfl, fun p hp q hq => ?_, Q2, rfl, (fun m v e => by simp at e)⟩
            rcases List.mem_cons.mp hp with rfl | hp
            · exact off3 _ (.head _) q (List.mem_append_left _ (List.mem_append_right _ hq))
            · refine xsOff _ Q5 psub p ?_ q hq
              rcases List.mem_cons.mp hp with rfl | hp
              · exact .head _
              rcases List.mem_cons.mp hp with rfl | hp
              · exact .tail _ (.head _)
              · exact .tail _ (.tail _ (.tail _ hp))
          · rintro i ys nx hi ⟨nx4, e, o4, ms4, hl4, hd4⟩
            exact ⟨nx4, e, o4, (by rw [show 3 * (i + 1) + 0 = 3 * i + 3 by omega]; exact ms4), by omega, hd4⟩
          · rintro C i v0 oC mC ys own nx h tk hi hCo hoC hm0 F N3 off3 hJ
            unfold InnerSrc
            intro E' Q' hQ
            refine wpAny_Constant_str ?_
            refine wpAny_pyIter_ascii (by decide +kernel) ?_
            refine hQ _ (fun i hh => hh.IsStrIter h.objs.size "str_ascii_iterator" (Str.ofString "pqr") tk i) _ _ ?_ (fun i h st => let ⟨o, e, _⟩ := st; ⟨o, e⟩) ⟨_, Heap.get?_push_size _ rfl, rfl, rfl⟩ (Heap.get?_none_of_le (Nat.le_refl _)) (fun b o e => Heap.get?_push_of_some _ e)
            rw [← hq3]
            exact Walks.strAscii rfl _ _ _
          · rintro C i j v0 v1 oC mC ys4 own nx h4 tk4 E' hi hj ⟨c, u, hc, rfl⟩ hCo hoC hm0 hm1 F4 N4 off4 ⟨nx4, rfl, o4, ms4, hl4, hd4⟩
            obtain ⟨hi2, ti, rfl⟩ := its_two hi
            obtain ⟨hj3, hnm⟩ := name_sign hc
            rw [hnm] at hm1
            have mX : ∀ q ∈ [(Dd, LCg.lst ys), (L + 1 + 1 + 1 + 1, oT2), (L + 1 + 1 + 1, o7), ((389 : Nat), tabObj ps), (d6, rulesObj w (xrOf X top 0) (xrOf X top 1) (xrOf X top 2) u0 u1 u2 um)], q ∈ own ++ ([(Dd, LCg.lst ys), (L + 1 + 1 + 1 + 1, oT2), (L + 1 + 1 + 1, o7), ((389 : Nat), tabObj ps), (d6, rulesObj w (xrOf X top 0) (xrOf X top 1) (xrOf X top 2) u0 u1 u2 um)] ++ nx4) := fun q hq => List.mem_append_right _ (List.mem_append_left _ hq)
            have N5 : News g₀ L h4 ((C, oC) :: (L + 1 + 1 + 1 + 1, oT2) :: (L + 1 + 1 + 1, o7) :: (d6, rulesObj w (xrOf X top 0) (xrOf X top 1) (xrOf X top 2) u0 u1 u2 um) :: (own ++ ([(Dd, LCg.lst ys), (L + 1 + 1 + 1 + 1, oT2), (L + 1 + 1 + 1, o7), ((389 : Nat), tabObj ps), (d6, rulesObj w (xrOf X top 0) (xrOf X top 1) (xrOf X top 2) u0 u1 u2 um)] ++ nx4))) :=
              List.forall_mem_cons.mpr ⟨N4 _ (List.mem_append_left _ hCo), List.forall_mem_cons.mpr ⟨N4 _ (mX _ (.tail _ (.head _))), List.forall_mem_cons.mpr ⟨N4 _ (mX _ (.tail _ (.tail _ (.head _)))), List.forall_mem_cons.mpr ⟨N4 _ (mX _ (.tail _ (.tail _ (.tail _ (.tail _ (.head _)))))), N4⟩⟩⟩⟩
            clear mX
            have hrl : recursionLimit = 1000 := rfl
            have hcl : cLine = 9900 := rfl
            have hcd : callerA.depth + 1 ≤ 310 := by decide
            have hcu : callerA.units + 3 ≤ 1000 := by decide
            have hpl : dueAt p2 (3 * i) ≤ text.length := by unfold dueAt; split <;> omega
            k_steps
            unfold Halt
            refine kda_item (knd := PySem.strKind _ w) N5 (.tail _ (.tail _ (.tail _ (.head _)))) (rules_isdict (prog := PySem.Challenge.rw_vj0024_01.row.prog) (X := X) (top := top)) (strKind_is _ _ _ _) (valueAt_rules hj3) ?_
            k_steps
            unfold Halt
            have ex : X (top j) = xrOf X top j := (if_pos hj3).symm
            rw [ex]
            have hleft := left_le pv.length text.length (fun _ _ => none)
            have hl144 : left pv.length text.length (fun _ _ => none) ≤ 144 := Nat.le_trans hleft (Nat.le_trans (Nat.mul_le_mul hn24 (show text.length + 1 ≤ 6 by omega)) (by decide))
            have hat : ∀ x p, p ≤ text.length → atT text x p = true → p + x.length ≤ text.length := fun x p hp h => atT_le hp h
            have TD := told_told (prog := PySem.Challenge.rw_vj0024_01.row.prog) (w := w) (B := 3 * i + j) (N := left pv.length text.length (fun _ _ => none)) (text := text)
              (fun cd er dE => core_all (X := xrOf X top) (D := fun k => D (rtOf top k)) (P := askOf E top) (ks := ksOf top pv.length S) (n := pv.length) (len := text.length) (at_ := atT text) (by omega) (fun k hk => ksOf_lt hln.1 hk) (by omega) hkids hat (fun x p hp => atT_sw hp) rfl (by omega) _)
              (by omega) (Nat.le_refl _) hat rfl (by omega) (k := j) (p := dueAt p2 (3 * i)) (t2 := tt) (t3 := ti) (mem_ksOf.mpr (.inl hj3)) hpl ms4
            refine told_useT (xs := own ++ [(Dd, LCg.lst ys), (L + 1 + 1 + 1 + 1, oT2), (L + 1 + 1 + 1, o7), ((389 : Nat), tabObj ps), (d6, rulesObj w (xrOf X top 0) (xrOf X top 1) (xrOf X top 2) u0 u1 u2 um)]) TD B' F4 X' (by rw [List.append_assoc]; exact N4) T' rfl rfl rfl rfl (show callerA.depth + 1 + (2 * left pv.length text.length (fun _ _ => none) + 115) < recursionLimit by omega) (show callerA.units + 3 + (32 * left pv.length text.length (fun _ _ => none) + 1064) < cLine by omega) ?_ ?_
            · intro q hq r hr
              rcases List.mem_append.mp hq with hq | hq
              · exact off4 q hq r (List.mem_append_right _ hr)
              · exact o4 q hq r hr
            · rintro r news' h6 tk6 F6 N6 ap6 ⟨v, t, mm', rfl, hR, M6⟩
              show ElEnd g₀ L _ _ own _ _ _
              refine ⟨h6, _, [(Dd, LCg.lst ys), (L + 1 + 1 + 1 + 1, oT2), (L + 1 + 1 + 1, o7), ((389 : Nat), tabObj ps), (d6, rulesObj w (xrOf X top 0) (xrOf X top 1) (xrOf X top 2) u0 u1 u2 um)] ++ news', rfl, F6, by rw [← List.append_assoc]; exact N6, fun p hp q hq => ?_, news', rfl, fun p hp q hq => ap6 p (List.mem_append_right _ hp) q hq, M6, by rw [List.length_append, hl4]; rfl, hd4.snoc hl4 hj3 rfl hR⟩
              rcases List.mem_append.mp hq with hq | hq
              · exact off4 p hp q (List.mem_append_left _ hq)
              · exact ap6 p (List.mem_append_left _ hp) q hq
          · rintro D2 h5 tk5 zs nx F5 N5 off5 nSD2 ⟨nx4, rfl, o4, ms4, hl4, hd4⟩ hzl
            k_steps
            unfold Halt
            obtain ⟨is, i1, i2⟩ := hd4.same hd3 (hzl.trans hyl.symm)
            have nD2 := N5 _ (.head _)
            have nDd := N5 (Dd, LCg.lst ys) (.tail _ (.tail _ (.head _)))
            refine eq_intsK (PySem.IsL.isList (n := zs.length) nD2.1) i1 (PySem.IsL.isList (n := ys.length) nDd.1) i2 ?_ ?_
            · exact (show callerA.units + 3 + 64 < cLine by decide)
            · have e : decide (is = is) = true := decide_eq_true rfl
              rw [e]
              refine ⟨rfl, fun b o e => F5.keep b o e, rfl, ?_, ps, (N5 (389, tabObj ps) (.tail _ (.tail _ (.tail _ (.tail _ (.tail _ (.head _))))))).1⟩
              intro y hy
              obtain ⟨j, hj, ej⟩ := Array.mem_iff_getElem.mp hy
              exact hgs.bare j y (by rw [hg]; exact Nat.zero_le _) (by rw [← ej]; exact Array.getElem?_eq_getElem hj)
end VJ
end

theorem PySem.Challenge.cw_vj0024_01_holds : PySem.Challenge.rw_vj0024_01.Holds := by
  exact VJ.law_all
