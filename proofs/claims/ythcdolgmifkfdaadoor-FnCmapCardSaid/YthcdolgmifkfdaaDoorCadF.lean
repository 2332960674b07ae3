/- The making of a font: what its frame holds, told slot by slot; the rest of its text from a statement on; what it gives. -/
import Derived.Test.YthcdolgmifkfdaaDoorCadL
namespace Go.Proofs.YthcdolgmifkfdaaDoor.CadF
open Go.ChangeShapes Go.WideShapes Go.ChangeAt Go.RowKit
open Lst Mem RowG GlyM GlyN GlyO MadN CadL
set_option linter.unusedVariables false
variable {LV : Value} {fm : Int} {ps : List Pr}

/-- the text behind n statements -/
noncomputable def dropC : Nat → Code → Code
  | 0, c => c
  | n + 1, .seq _ c => dropC n c
  | _, c => c
noncomputable def body : Code := Tryd.f5.body.getD .skip
/-- a font that was made: its cells, its glyphs -/
def MadeP (fm : Int) (w0 : World) (wa : Nat) (e : Ending) (w' : World) : Prop :=
  ∃ (cs : List Value) (Gs : List Gl) (GA : Option Addr) (gc : Nat), e = .returned (.agg cs.toArray) ∧ cs.length = 28 ∧ cs[1]? = some (.slice GA Gs.length gc) ∧ cs[27]? = some (.int .i64 wa) ∧ 0 < Gs.length ∧ Gs.length ≤ 9 ∧ GsOk Gs ∧
    Glys T w' w0.heap.size (.slice GA Gs.length gc) Gs ∧ Below w0.heap.size w0 w' ∧ (∀ u ∈ cs, u.oneCell' = true) ∧ ∃ ps, Pz fm ps w0 cs w'
def EndsM (fm : Int) (w0 : World) (wa : Nat) : Exit → Act → World → Prop := bodyPost Tryd.prog Tryd.f5 (MadeP fm w0 wa)
def Fr (LV : Value) (f : Int) (nb mb : Nat) (a : Act) : Prop := a.tmps.size = 413 ∧ a.defers = [] ∧ a.tmps[0]? = some (.int .u32 f) ∧ a.tmps[3]? = some LV ∧ a.tmps[8]? = some (.pointer (some ⟨nb + 1, 0, none⟩)) ∧ a.tmps[9]? = some (.pointer (some ⟨mb, 0, none⟩)) ∧ a.tmps[10]? = some (.func (Fn.func 9) #[] #[.pointer (some ⟨nb, 0, none⟩)])
/-- what is kept from statement to statement: the source, the glyphs, the boxes; the font's cells are cs -/
def Inv (fm : Int) (ps : List Pr) (w0 : World) (wa N : Nat) (GA : Option Addr) (gc : Nat) (Gs : List Gl) (A : Option Addr) (m cap : Nat) (ms : List Int) (mb : Nat) (cs : List Value) (W : World) : Prop :=
  Src w0 A m ms ∧ Glys T W w0.heap.size (.slice GA N gc) Gs ∧ GsOk Gs ∧ Gs.length = N ∧ (0 < N ∧ N ≤ 9) ∧ Kc fm ps w0 mb cs A m cap W ∧ (∀ u ∈ cs, u.oneCell' = true) ∧ cs.length = 28 ∧ cs[1]? = some (.slice GA N gc) ∧ cs[27]? = some (.int .i64 wa)
section
variable {w0 W W' : World} {wa N gc m cap mb : Nat} {GA A : Option Addr} {Gs : List Gl} {ms : List Int} {cs : List Value}
theorem Inv.kc (h : Inv fm ps w0 wa N GA gc Gs A m cap ms mb cs W) : Kc fm ps w0 mb cs A m cap W := h.2.2.2.2.2.1
theorem Inv.gl (h : Inv fm ps w0 wa N GA gc Gs A m cap ms mb cs W) : Glys T W w0.heap.size (.slice GA N gc) Gs := h.2.1
theorem Inv.len (h : Inv fm ps w0 wa N GA gc Gs A m cap ms mb cs W) : cs.length = 28 := h.2.2.2.2.2.2.2.1
theorem Inv.cell (h : Inv fm ps w0 wa N GA gc Gs A m cap ms mb cs W) {i : Nat} {u : Value} (hu : cs[i]? = some u) : W.cell? ⟨mb, i, none⟩ = some u := h.kc.1.cell hu
theorem Inv.frozen (h : Inv fm ps w0 wa N GA gc Gs A m cap ms mb cs W) (i : Nat) : W.frozen? ⟨mb, i, none⟩ = false := h.kc.1.frozen i
theorem Inv.cell1 (h : Inv fm ps w0 wa N GA gc Gs A m cap ms mb cs W) : W.cell? ⟨mb, 1, none⟩ = some (.slice GA N gc) := h.cell h.2.2.2.2.2.2.2.2.1
theorem Inv.below (h : Inv fm ps w0 wa N GA gc Gs A m cap ms mb cs W) (hb : Below W.heap.size W W') : Inv fm ps w0 wa N GA gc Gs A m cap ms mb cs W' :=
  ⟨h.1, h.2.1.below hb, h.2.2.1, h.2.2.2.1, h.2.2.2.2.1, h.kc.below hb, h.2.2.2.2.2.2⟩
theorem Inv.drew (h : Inv fm ps w0 wa N GA gc Gs A m cap ms mb cs W) : Inv fm ps w0 wa N GA gc Gs A m cap ms mb cs W.drew := h.below (Below.drew (Below.refl _ _))
theorem Inv.sz (h : Inv fm ps w0 wa N GA gc Gs A m cap ms mb cs W) : w0.heap.size + 2 < W.heap.size := h.kc.sz
theorem Inv.set_ (h : Inv fm ps w0 wa N GA gc Gs A m cap ms mb cs W) {i : Nat} {u : Value} (h1 : 1 ≠ i) (h2 : 27 ≠ i) (hu : u.oneCell' = true) (h5 : i ≠ 5 := by decide) (h6 : i ≠ 6 := by decide) : Inv fm ps w0 wa N GA gc Gs A m cap ms mb (cs.set i u) (W.setCell ⟨mb, i, none⟩ u) :=
  ⟨h.1, Glys.set_ h.gl h.kc.1 (by decide) (by decide) (by decide) (by decide), h.2.2.1, h.2.2.2.1, h.2.2.2.2.1, h.kc.set_ i u h5 h6, fun v hv => by
    rcases List.mem_or_eq_of_mem_set hv with hv | rfl
    · exact h.2.2.2.2.2.2.1 v hv
    · exact hu, by rw [List.length_set]; exact h.len, by rw [List.getElem?_set_ne (fun e => h1 e.symm)]; exact h.2.2.2.2.2.2.2.2.1, by rw [List.getElem?_set_ne (fun e => h2 e.symm)]; exact h.2.2.2.2.2.2.2.2.2⟩
theorem Inv.grown {r : Option Nat} {t : TypeId} (h : Inv fm ps w0 wa N GA gc Gs A m cap ms mb cs W) (hg : W.grownBy W' r) (hr : ∀ b, r = some b → IsT W b t ∧ w0.heap.size ≤ b) (h1 : t ≠ 36) (h2 : t ≠ 47) (h3 : t ≠ 53) (h4 : t ≠ 75) (h5 : t ≠ 73) (h6 : t ≠ 72) (h7 : t ≠ 41 := by decide) : Inv fm ps w0 wa N GA gc Gs A m cap ms mb cs W' :=
  ⟨h.1, Glys.grown h.gl hg (fun b hb => (hr b hb).1) h3 h4 h5 h6, h.2.2.1, h.2.2.2.1, h.2.2.2.2.1, h.kc.grown hg hr h1 h2 h7, h.2.2.2.2.2.2⟩
/-- the font's source of numbers is called -/
theorem Inv.number (h : Inv fm ps w0 wa N GA gc Gs A m cap ms mb cs W) (k : Int) (hk : 0 ≤ k ∧ k ≤ 100000) :
    Calls Tryd.prog 9 #[.int .i64 k, .pointer (some ⟨w0.heap.size, 0, none⟩)] W (fun e W' => ∃ v, e = .returned (.int .i64 v) ∧ (-4000000 ≤ v ∧ v ≤ 4000000) ∧ Below W.heap.size W W' ∧ Inv fm ps w0 wa N GA gc Gs A m cap ms mb cs W') := by
  refine (number_any w0.heap.size m cap k A ms W w0 hk (h.kc.2.1.cell (i := 0) rfl) h.1 h.kc.2.2.2.2.1).mono ?_
  rintro e X ⟨v, rfl, hv, n, hn⟩
  have hb : Below W.heap.size W X := by rw [← hn]; exact bel_draws (Below.refl _ _) _
  exact ⟨v, rfl, hv, hb, h.below hb⟩
/-- a number stored into the font's box, as one step of a walk -/
theorem st_inv {ops : Array Oper} {rest : List Oper} {o : Oper} {a : Act} {Q : Exit → Act → World → Prop} {x y : Operand} {i : Nat} {v : Int}
    (hgd : o.guard = none) (ho : o.op = .store 3 x y) (hd : o.dst = none) (hx : a.eval x = .pointer (some ⟨mb, i, none⟩)) (hy : a.eval y = .int .i64 v) (hi : i < 28 ∧ i ≠ 1 ∧ i ≠ 27 ∧ i ≠ 5 ∧ i ≠ 6) (hk : Inv fm ps w0 wa N GA gc Gs A m cap ms mb cs W)
    (h : ∀ cs' W', Inv fm ps w0 wa N GA gc Gs A m cap ms mb cs' W' → (∀ j, j ≠ i → cs'[j]? = cs[j]?) → wpList Tryd.prog ops Q rest a W') : wpList Tryd.prog ops Q (o :: rest) a W := by
  have hc := hk.cell (i := i) (List.getElem?_eq_getElem (by rw [hk.len]; exact hi.1))
  have hf := hk.frozen i
  refine wpList_plain hgd fun K hK => ?_
  unfold Oper.wp execOp
  simp only [ho, hx, hy]
  have := hK a _ (h _ _ (hk.set_ (i := i) (u := .int .i64 v) (fun e => hi.2.1 e.symm) (fun e => hi.2.2.1 e.symm) rfl hi.2.2.2.1 hi.2.2.2.2) (fun j hj => List.getElem?_set_ne (fun e => hj e.symm)))
  clear h hK
  go_simp
  exact this
end
set_option maxRecDepth 20000 in
theorem lit (S : Nat → Value) : (List.range 413).map S = S 0 :: S 1 :: S 2 :: S 3 :: S 4 :: S 5 :: S 6 :: S 7 :: S 8 :: S 9 :: S 10 :: S 11 :: S 12 :: S 13 :: S 14 :: S 15 :: S 16 :: S 17 :: S 18 :: S 19 :: S 20 :: S 21 :: S 22 :: S 23 :: S 24 :: S 25 :: S 26 :: S 27 :: S 28 :: S 29 :: S 30 :: S 31 :: S 32 :: S 33 :: S 34 :: S 35 :: S 36 :: S 37 :: S 38 :: S 39 :: S 40 :: S 41 :: S 42 :: S 43 :: S 44 :: S 45 :: S 46 :: S 47 :: S 48 :: S 49 :: S 50 :: S 51 :: S 52 :: S 53 :: S 54 :: S 55 :: S 56 :: S 57 :: S 58 :: S 59 :: S 60 :: S 61 :: S 62 :: S 63 :: S 64 :: S 65 :: S 66 :: S 67 :: S 68 :: S 69 :: S 70 :: S 71 :: S 72 :: S 73 :: S 74 :: S 75 :: S 76 :: S 77 :: S 78 :: S 79 :: S 80 :: S 81 :: S 82 :: S 83 :: S 84 :: S 85 :: S 86 :: S 87 :: S 88 :: S 89 :: S 90 :: S 91 :: S 92 :: S 93 :: S 94 :: S 95 :: S 96 :: S 97 :: S 98 :: S 99 :: S 100 :: S 101 :: S 102 :: S 103 :: S 104 :: S 105 :: S 106 :: S 107 :: S 108 :: S 109 :: S 110 :: S 111 :: S 112 :: S 113 :: S 114 :: S 115 :: S 116 :: S 117 :: S 118 :: S 119 :: S 120 :: S 121 :: S 122 :: S 123 :: S 124 :: S 125 :: S 126 :: S 127 :: S 128 :: S 129 :: S 130 :: S 131 :: S 132 :: S 133 :: S 134 :: S 135 :: S 136 :: S 137 :: S 138 :: S 139 :: S 140 :: S 141 :: S 142 :: S 143 :: S 144 :: S 145 :: S 146 :: S 147 :: S 148 :: S 149 :: S 150 :: S 151 :: S 152 :: S 153 :: S 154 :: S 155 :: S 156 :: S 157 :: S 158 :: S 159 :: S 160 :: S 161 :: S 162 :: S 163 :: S 164 :: S 165 :: S 166 :: S 167 :: S 168 :: S 169 :: S 170 :: S 171 :: S 172 :: S 173 :: S 174 :: S 175 :: S 176 :: S 177 :: S 178 :: S 179 :: S 180 :: S 181 :: S 182 :: S 183 :: S 184 :: S 185 :: S 186 :: S 187 :: S 188 :: S 189 :: S 190 :: S 191 :: S 192 :: S 193 :: S 194 :: S 195 :: S 196 :: S 197 :: S 198 :: S 199 :: S 200 :: S 201 :: S 202 :: S 203 :: S 204 :: S 205 :: S 206 :: S 207 :: S 208 :: S 209 :: S 210 :: S 211 :: S 212 :: S 213 :: S 214 :: S 215 :: S 216 :: S 217 :: S 218 :: S 219 :: S 220 :: S 221 :: S 222 :: S 223 :: S 224 :: S 225 :: S 226 :: S 227 :: S 228 :: S 229 :: S 230 :: S 231 :: S 232 :: S 233 :: S 234 :: S 235 :: S 236 :: S 237 :: S 238 :: S 239 :: S 240 :: S 241 :: S 242 :: S 243 :: S 244 :: S 245 :: S 246 :: S 247 :: S 248 :: S 249 :: S 250 :: S 251 :: S 252 :: S 253 :: S 254 :: S 255 :: S 256 :: S 257 :: S 258 :: S 259 :: S 260 :: S 261 :: S 262 :: S 263 :: S 264 :: S 265 :: S 266 :: S 267 :: S 268 :: S 269 :: S 270 :: S 271 :: S 272 :: S 273 :: S 274 :: S 275 :: S 276 :: S 277 :: S 278 :: S 279 :: S 280 :: S 281 :: S 282 :: S 283 :: S 284 :: S 285 :: S 286 :: S 287 :: S 288 :: S 289 :: S 290 :: S 291 :: S 292 :: S 293 :: S 294 :: S 295 :: S 296 :: S 297 :: S 298 :: S 299 :: S 300 :: S 301 :: S 302 :: S 303 :: S 304 :: S 305 :: S 306 :: S 307 :: S 308 :: S 309 :: S 310 :: S 311 :: S 312 :: S 313 :: S 314 :: S 315 :: S 316 :: S 317 :: S 318 :: S 319 :: S 320 :: S 321 :: S 322 :: S 323 :: S 324 :: S 325 :: S 326 :: S 327 :: S 328 :: S 329 :: S 330 :: S 331 :: S 332 :: S 333 :: S 334 :: S 335 :: S 336 :: S 337 :: S 338 :: S 339 :: S 340 :: S 341 :: S 342 :: S 343 :: S 344 :: S 345 :: S 346 :: S 347 :: S 348 :: S 349 :: S 350 :: S 351 :: S 352 :: S 353 :: S 354 :: S 355 :: S 356 :: S 357 :: S 358 :: S 359 :: S 360 :: S 361 :: S 362 :: S 363 :: S 364 :: S 365 :: S 366 :: S 367 :: S 368 :: S 369 :: S 370 :: S 371 :: S 372 :: S 373 :: S 374 :: S 375 :: S 376 :: S 377 :: S 378 :: S 379 :: S 380 :: S 381 :: S 382 :: S 383 :: S 384 :: S 385 :: S 386 :: S 387 :: S 388 :: S 389 :: S 390 :: S 391 :: S 392 :: S 393 :: S 394 :: S 395 :: S 396 :: S 397 :: S 398 :: S 399 :: S 400 :: S 401 :: S 402 :: S 403 :: S 404 :: S 405 :: S 406 :: S 407 :: S 408 :: S 409 :: S 410 :: S 411 :: S 412 :: [] := by kernel_rfl
theorem ext413 (t : Array Value) (hs : t.size = 413) : t.toList = (List.range 413).map (fun i => t.getD i undef) := by
  apply List.ext_getElem (by simp [hs])
  intro i h1 h2
  rw [List.getElem_map, List.getElem_range]
  simp only [Array.length_toList] at h1
  simp [Array.getD, h1]
theorem at_of {t : Array Value} {i : Nat} {v : Value} (h : t[i]? = some v) : t.getD i undef = v := by
  rw [Array.getD_eq_getD_getElem?, h]
  rfl
set_option maxRecDepth 20000 in
theorem Fr.open_ {f : Int} {nb mb : Nat} {a : Act} (h : Fr LV f nb mb a) : ∃ S : Nat → Value, a = ⟨(.int .u32 f :: S 1 :: S 2 :: LV :: S 4 :: S 5 :: S 6 :: S 7 :: .pointer (some ⟨nb + 1, 0, none⟩) :: .pointer (some ⟨mb, 0, none⟩) :: .func (Fn.func 9) #[] #[.pointer (some ⟨nb, 0, none⟩)] :: S 11 :: S 12 :: S 13 :: S 14 :: S 15 :: S 16 :: S 17 :: S 18 :: S 19 :: S 20 :: S 21 :: S 22 :: S 23 :: S 24 :: S 25 :: S 26 :: S 27 :: S 28 :: S 29 :: S 30 :: S 31 :: S 32 :: S 33 :: S 34 :: S 35 :: S 36 :: S 37 :: S 38 :: S 39 :: S 40 :: S 41 :: S 42 :: S 43 :: S 44 :: S 45 :: S 46 :: S 47 :: S 48 :: S 49 :: S 50 :: S 51 :: S 52 :: S 53 :: S 54 :: S 55 :: S 56 :: S 57 :: S 58 :: S 59 :: S 60 :: S 61 :: S 62 :: S 63 :: S 64 :: S 65 :: S 66 :: S 67 :: S 68 :: S 69 :: S 70 :: S 71 :: S 72 :: S 73 :: S 74 :: S 75 :: S 76 :: S 77 :: S 78 :: S 79 :: S 80 :: S 81 :: S 82 :: S 83 :: S 84 :: S 85 :: S 86 :: S 87 :: S 88 :: S 89 :: S 90 :: S 91 :: S 92 :: S 93 :: S 94 :: S 95 :: S 96 :: S 97 :: S 98 :: S 99 :: S 100 :: S 101 :: S 102 :: S 103 :: S 104 :: S 105 :: S 106 :: S 107 :: S 108 :: S 109 :: S 110 :: S 111 :: S 112 :: S 113 :: S 114 :: S 115 :: S 116 :: S 117 :: S 118 :: S 119 :: S 120 :: S 121 :: S 122 :: S 123 :: S 124 :: S 125 :: S 126 :: S 127 :: S 128 :: S 129 :: S 130 :: S 131 :: S 132 :: S 133 :: S 134 :: S 135 :: S 136 :: S 137 :: S 138 :: S 139 :: S 140 :: S 141 :: S 142 :: S 143 :: S 144 :: S 145 :: S 146 :: S 147 :: S 148 :: S 149 :: S 150 :: S 151 :: S 152 :: S 153 :: S 154 :: S 155 :: S 156 :: S 157 :: S 158 :: S 159 :: S 160 :: S 161 :: S 162 :: S 163 :: S 164 :: S 165 :: S 166 :: S 167 :: S 168 :: S 169 :: S 170 :: S 171 :: S 172 :: S 173 :: S 174 :: S 175 :: S 176 :: S 177 :: S 178 :: S 179 :: S 180 :: S 181 :: S 182 :: S 183 :: S 184 :: S 185 :: S 186 :: S 187 :: S 188 :: S 189 :: S 190 :: S 191 :: S 192 :: S 193 :: S 194 :: S 195 :: S 196 :: S 197 :: S 198 :: S 199 :: S 200 :: S 201 :: S 202 :: S 203 :: S 204 :: S 205 :: S 206 :: S 207 :: S 208 :: S 209 :: S 210 :: S 211 :: S 212 :: S 213 :: S 214 :: S 215 :: S 216 :: S 217 :: S 218 :: S 219 :: S 220 :: S 221 :: S 222 :: S 223 :: S 224 :: S 225 :: S 226 :: S 227 :: S 228 :: S 229 :: S 230 :: S 231 :: S 232 :: S 233 :: S 234 :: S 235 :: S 236 :: S 237 :: S 238 :: S 239 :: S 240 :: S 241 :: S 242 :: S 243 :: S 244 :: S 245 :: S 246 :: S 247 :: S 248 :: S 249 :: S 250 :: S 251 :: S 252 :: S 253 :: S 254 :: S 255 :: S 256 :: S 257 :: S 258 :: S 259 :: S 260 :: S 261 :: S 262 :: S 263 :: S 264 :: S 265 :: S 266 :: S 267 :: S 268 :: S 269 :: S 270 :: S 271 :: S 272 :: S 273 :: S 274 :: S 275 :: S 276 :: S 277 :: S 278 :: S 279 :: S 280 :: S 281 :: S 282 :: S 283 :: S 284 :: S 285 :: S 286 :: S 287 :: S 288 :: S 289 :: S 290 :: S 291 :: S 292 :: S 293 :: S 294 :: S 295 :: S 296 :: S 297 :: S 298 :: S 299 :: S 300 :: S 301 :: S 302 :: S 303 :: S 304 :: S 305 :: S 306 :: S 307 :: S 308 :: S 309 :: S 310 :: S 311 :: S 312 :: S 313 :: S 314 :: S 315 :: S 316 :: S 317 :: S 318 :: S 319 :: S 320 :: S 321 :: S 322 :: S 323 :: S 324 :: S 325 :: S 326 :: S 327 :: S 328 :: S 329 :: S 330 :: S 331 :: S 332 :: S 333 :: S 334 :: S 335 :: S 336 :: S 337 :: S 338 :: S 339 :: S 340 :: S 341 :: S 342 :: S 343 :: S 344 :: S 345 :: S 346 :: S 347 :: S 348 :: S 349 :: S 350 :: S 351 :: S 352 :: S 353 :: S 354 :: S 355 :: S 356 :: S 357 :: S 358 :: S 359 :: S 360 :: S 361 :: S 362 :: S 363 :: S 364 :: S 365 :: S 366 :: S 367 :: S 368 :: S 369 :: S 370 :: S 371 :: S 372 :: S 373 :: S 374 :: S 375 :: S 376 :: S 377 :: S 378 :: S 379 :: S 380 :: S 381 :: S 382 :: S 383 :: S 384 :: S 385 :: S 386 :: S 387 :: S 388 :: S 389 :: S 390 :: S 391 :: S 392 :: S 393 :: S 394 :: S 395 :: S 396 :: S 397 :: S 398 :: S 399 :: S 400 :: S 401 :: S 402 :: S 403 :: S 404 :: S 405 :: S 406 :: S 407 :: S 408 :: S 409 :: S 410 :: S 411 :: S 412 :: []).toArray, []⟩ ∧ ∀ (i : Nat) (v : Value), a.tmps[i]? = some v → S i = v := by
  obtain ⟨hs, hd, h0, h3, h8, h9, h10⟩ := h
  obtain ⟨S, hS⟩ : ∃ S : Nat → Value, S = fun i => a.tmps.getD i undef := ⟨_, rfl⟩
  have e := ext413 a.tmps hs
  rw [← hS, lit] at e
  rw [show S 0 = .int .u32 f from by rw [hS]; exact at_of h0] at e
  rw [show S 3 = LV from by rw [hS]; exact at_of h3] at e
  rw [show S 8 = .pointer (some ⟨nb + 1, 0, none⟩) from by rw [hS]; exact at_of h8] at e
  rw [show S 9 = .pointer (some ⟨mb, 0, none⟩) from by rw [hS]; exact at_of h9] at e
  rw [show S 10 = .func (Fn.func 9) #[] #[.pointer (some ⟨nb, 0, none⟩)] from by rw [hS]; exact at_of h10] at e
  refine ⟨S, ?_, fun i v hv => by rw [hS]; exact at_of hv⟩
  clear hS
  cases a with
  | mk t d =>
    simp only at hd e
    subst hd
    rw [← e]
end Go.Proofs.YthcdolgmifkfdaaDoor.CadF
