/- Contract of the loading of the parts that stand on the stack. -/
import Derived.Test.YtdeaodgcdacleaaDoorLdS
import Derived.Test.YtdeaodgcdacleaaDoorGate
import Derived.Lib.Hide
import Derived.Deep.QuietTactic
import Derived.BigQuiet
import Derived.Deep.CutBlock
import Derived.WalkSpells
namespace Go.Proofs.YtdeaodgcdacleaaDoor.LdD
open Go.ChangeShapes Go.WideShapes Go.ChangeAt Go.RowKit
open Lst Mem RowG SpecB GlyM PthA PthC LdA LdB LdC LdS Trn
set_option linter.unusedSimpArgs false
set_option linter.unusedVariables false
/-- the first parts stand on the stack -/
def Stk (bd : List Value) (Rs : List Ref) (k : Nat) : Prop := ∀ i, i < k → ∃ (ht : Bool) (xx yy : Int) (c : List Value), ElOk (Rs.getD i (0, 0, 0, 0, 0)) ht xx yy c ∧ ∀ j, j < 8 → bd[2 + i * 8 + j]? = c[j]?
theorem Stk.agr {bd bd' : List Value} {Rs : List Ref} {k : Nat} (h : Stk bd Rs k) (ha : Agr bd bd') : Stk bd' Rs k := fun i hi => by
  obtain ⟨ht, xx, yy, c, h1, h2⟩ := h i hi
  exact ⟨ht, xx, yy, c, h1, fun j hj => by rw [ha.2 _ (by omega)]; exact h2 j hj⟩
/-- what a part is good for -/
structure PartOk (Gs : List Gl) (r : Ref) : Prop where
  dx : -2048 ≤ r.2.1 ∧ r.2.1 ≤ 2048
  dy : -2048 ≤ r.2.2.1 ∧ r.2.2.1 ≤ 2048
  sx : -8 ≤ r.2.2.2.1 ∧ r.2.2.2.1 ≤ 7
  sy : -8 ≤ r.2.2.2.2 ∧ r.2.2.2.2 ≤ 7
  len : (partOf Gs r).length ≤ 24
  q4 : ∀ x ∈ partOf Gs r, Q4 x.2.1 ∧ Q4 x.2.2.1 ∧ Q4 x.2.2.2
theorem tp4 (dx dy : Int) (p : Pt) : tp 4 4 dx dy p = (p.1 + dx, p.2 + dy) := by
  have e : ∀ x : Int, (x * 4).tdiv 4 = x := fun x => by rw [Int.mul_comm]; exact Int.mul_tdiv_cancel_left _ (by decide)
  unfold tp
  rw [e, e, Int.add_comm dx, Int.add_comm dy]
theorem q4_sm {p : Pt} (h : Q4 p) : Sm p := ⟨by have := h.1.1; omega, by have := h.2.1; omega⟩
/-- one step more is turned -/
theorem rel_next {LL P : List Rec} {r : Ref} {m : Nat} (h : m < P.length) : LL ++ (P.take (m + 1)).map (trRec r) ++ P.drop (m + 1) = LL ++ (P.take m).map (trRec r) ++ trRec r (P.getD m (0, (0, 0), (0, 0), (0, 0))) :: P.drop (m + 1) := by
  rw [List.take_succ_eq_append_getElem h, List.map_append, List.getD_eq_getElem?_getD, List.getElem?_eq_getElem h]
  simp
def RestP (B bb : Nat) (L : List Rec) (w : World) (e : Ending) (w' : World) : Prop :=
  e = .returned .nilIface ∧ ∃ bc', Buf w' B bb bc' L ∧ Below B w w'
theorem segs_slice {w : World} {B : Nat} {v : Value} {L : List Rec} (h : Segs w B v L) : ∃ A c, v = .slice A L.length c ∧ (0 < L.length → ∃ g, A = some ⟨g, 0, none⟩ ∧ L.length ≤ c ∧ IsT w g ST ∧ B ≤ g) := by
  rcases h.2 with ⟨e, h0⟩ | ⟨g, cap, cur, hv, hB, hh, hc, _⟩
  · exact ⟨none, 0, by rw [e, h0], fun h => by omega⟩
  · exact ⟨_, cap, hv, fun _ => ⟨g, rfl, hc, ⟨_, hh⟩, hB⟩⟩

noncomputable def body : Code := Tryd.f29.body.getD .skip
set_option maxRecDepth 20000 in
theorem lit (S : Nat → Value) : (List.range 308).map S = S 0 :: S 1 :: S 2 :: S 3 :: S 4 :: S 5 :: S 6 :: S 7 :: S 8 :: S 9 :: S 10 :: S 11 :: S 12 :: S 13 :: S 14 :: S 15 :: S 16 :: S 17 :: S 18 :: S 19 :: S 20 :: S 21 :: S 22 :: S 23 :: S 24 :: S 25 :: S 26 :: S 27 :: S 28 :: S 29 :: S 30 :: S 31 :: S 32 :: S 33 :: S 34 :: S 35 :: S 36 :: S 37 :: S 38 :: S 39 :: S 40 :: S 41 :: S 42 :: S 43 :: S 44 :: S 45 :: S 46 :: S 47 :: S 48 :: S 49 :: S 50 :: S 51 :: S 52 :: S 53 :: S 54 :: S 55 :: S 56 :: S 57 :: S 58 :: S 59 :: S 60 :: S 61 :: S 62 :: S 63 :: S 64 :: S 65 :: S 66 :: S 67 :: S 68 :: S 69 :: S 70 :: S 71 :: S 72 :: S 73 :: S 74 :: S 75 :: S 76 :: S 77 :: S 78 :: S 79 :: S 80 :: S 81 :: S 82 :: S 83 :: S 84 :: S 85 :: S 86 :: S 87 :: S 88 :: S 89 :: S 90 :: S 91 :: S 92 :: S 93 :: S 94 :: S 95 :: S 96 :: S 97 :: S 98 :: S 99 :: S 100 :: S 101 :: S 102 :: S 103 :: S 104 :: S 105 :: S 106 :: S 107 :: S 108 :: S 109 :: S 110 :: S 111 :: S 112 :: S 113 :: S 114 :: S 115 :: S 116 :: S 117 :: S 118 :: S 119 :: S 120 :: S 121 :: S 122 :: S 123 :: S 124 :: S 125 :: S 126 :: S 127 :: S 128 :: S 129 :: S 130 :: S 131 :: S 132 :: S 133 :: S 134 :: S 135 :: S 136 :: S 137 :: S 138 :: S 139 :: S 140 :: S 141 :: S 142 :: S 143 :: S 144 :: S 145 :: S 146 :: S 147 :: S 148 :: S 149 :: S 150 :: S 151 :: S 152 :: S 153 :: S 154 :: S 155 :: S 156 :: S 157 :: S 158 :: S 159 :: S 160 :: S 161 :: S 162 :: S 163 :: S 164 :: S 165 :: S 166 :: S 167 :: S 168 :: S 169 :: S 170 :: S 171 :: S 172 :: S 173 :: S 174 :: S 175 :: S 176 :: S 177 :: S 178 :: S 179 :: S 180 :: S 181 :: S 182 :: S 183 :: S 184 :: S 185 :: S 186 :: S 187 :: S 188 :: S 189 :: S 190 :: S 191 :: S 192 :: S 193 :: S 194 :: S 195 :: S 196 :: S 197 :: S 198 :: S 199 :: S 200 :: S 201 :: S 202 :: S 203 :: S 204 :: S 205 :: S 206 :: S 207 :: S 208 :: S 209 :: S 210 :: S 211 :: S 212 :: S 213 :: S 214 :: S 215 :: S 216 :: S 217 :: S 218 :: S 219 :: S 220 :: S 221 :: S 222 :: S 223 :: S 224 :: S 225 :: S 226 :: S 227 :: S 228 :: S 229 :: S 230 :: S 231 :: S 232 :: S 233 :: S 234 :: S 235 :: S 236 :: S 237 :: S 238 :: S 239 :: S 240 :: S 241 :: S 242 :: S 243 :: S 244 :: S 245 :: S 246 :: S 247 :: S 248 :: S 249 :: S 250 :: S 251 :: S 252 :: S 253 :: S 254 :: S 255 :: S 256 :: S 257 :: S 258 :: S 259 :: S 260 :: S 261 :: S 262 :: S 263 :: S 264 :: S 265 :: S 266 :: S 267 :: S 268 :: S 269 :: S 270 :: S 271 :: S 272 :: S 273 :: S 274 :: S 275 :: S 276 :: S 277 :: S 278 :: S 279 :: S 280 :: S 281 :: S 282 :: S 283 :: S 284 :: S 285 :: S 286 :: S 287 :: S 288 :: S 289 :: S 290 :: S 291 :: S 292 :: S 293 :: S 294 :: S 295 :: S 296 :: S 297 :: S 298 :: S 299 :: S 300 :: S 301 :: S 302 :: S 303 :: S 304 :: S 305 :: S 306 :: S 307 :: [] := by kernel_rfl
set_option maxRecDepth 20000 in
theorem open_ {a : Act} (hs : a.tmps.size = 308) (hd : a.defers = []) : ∃ S : Nat → Value, a = ⟨(S 0 :: S 1 :: S 2 :: S 3 :: S 4 :: S 5 :: S 6 :: S 7 :: S 8 :: S 9 :: S 10 :: S 11 :: S 12 :: S 13 :: S 14 :: S 15 :: S 16 :: S 17 :: S 18 :: S 19 :: S 20 :: S 21 :: S 22 :: S 23 :: S 24 :: S 25 :: S 26 :: S 27 :: S 28 :: S 29 :: S 30 :: S 31 :: S 32 :: S 33 :: S 34 :: S 35 :: S 36 :: S 37 :: S 38 :: S 39 :: S 40 :: S 41 :: S 42 :: S 43 :: S 44 :: S 45 :: S 46 :: S 47 :: S 48 :: S 49 :: S 50 :: S 51 :: S 52 :: S 53 :: S 54 :: S 55 :: S 56 :: S 57 :: S 58 :: S 59 :: S 60 :: S 61 :: S 62 :: S 63 :: S 64 :: S 65 :: S 66 :: S 67 :: S 68 :: S 69 :: S 70 :: S 71 :: S 72 :: S 73 :: S 74 :: S 75 :: S 76 :: S 77 :: S 78 :: S 79 :: S 80 :: S 81 :: S 82 :: S 83 :: S 84 :: S 85 :: S 86 :: S 87 :: S 88 :: S 89 :: S 90 :: S 91 :: S 92 :: S 93 :: S 94 :: S 95 :: S 96 :: S 97 :: S 98 :: S 99 :: S 100 :: S 101 :: S 102 :: S 103 :: S 104 :: S 105 :: S 106 :: S 107 :: S 108 :: S 109 :: S 110 :: S 111 :: S 112 :: S 113 :: S 114 :: S 115 :: S 116 :: S 117 :: S 118 :: S 119 :: S 120 :: S 121 :: S 122 :: S 123 :: S 124 :: S 125 :: S 126 :: S 127 :: S 128 :: S 129 :: S 130 :: S 131 :: S 132 :: S 133 :: S 134 :: S 135 :: S 136 :: S 137 :: S 138 :: S 139 :: S 140 :: S 141 :: S 142 :: S 143 :: S 144 :: S 145 :: S 146 :: S 147 :: S 148 :: S 149 :: S 150 :: S 151 :: S 152 :: S 153 :: S 154 :: S 155 :: S 156 :: S 157 :: S 158 :: S 159 :: S 160 :: S 161 :: S 162 :: S 163 :: S 164 :: S 165 :: S 166 :: S 167 :: S 168 :: S 169 :: S 170 :: S 171 :: S 172 :: S 173 :: S 174 :: S 175 :: S 176 :: S 177 :: S 178 :: S 179 :: S 180 :: S 181 :: S 182 :: S 183 :: S 184 :: S 185 :: S 186 :: S 187 :: S 188 :: S 189 :: S 190 :: S 191 :: S 192 :: S 193 :: S 194 :: S 195 :: S 196 :: S 197 :: S 198 :: S 199 :: S 200 :: S 201 :: S 202 :: S 203 :: S 204 :: S 205 :: S 206 :: S 207 :: S 208 :: S 209 :: S 210 :: S 211 :: S 212 :: S 213 :: S 214 :: S 215 :: S 216 :: S 217 :: S 218 :: S 219 :: S 220 :: S 221 :: S 222 :: S 223 :: S 224 :: S 225 :: S 226 :: S 227 :: S 228 :: S 229 :: S 230 :: S 231 :: S 232 :: S 233 :: S 234 :: S 235 :: S 236 :: S 237 :: S 238 :: S 239 :: S 240 :: S 241 :: S 242 :: S 243 :: S 244 :: S 245 :: S 246 :: S 247 :: S 248 :: S 249 :: S 250 :: S 251 :: S 252 :: S 253 :: S 254 :: S 255 :: S 256 :: S 257 :: S 258 :: S 259 :: S 260 :: S 261 :: S 262 :: S 263 :: S 264 :: S 265 :: S 266 :: S 267 :: S 268 :: S 269 :: S 270 :: S 271 :: S 272 :: S 273 :: S 274 :: S 275 :: S 276 :: S 277 :: S 278 :: S 279 :: S 280 :: S 281 :: S 282 :: S 283 :: S 284 :: S 285 :: S 286 :: S 287 :: S 288 :: S 289 :: S 290 :: S 291 :: S 292 :: S 293 :: S 294 :: S 295 :: S 296 :: S 297 :: S 298 :: S 299 :: S 300 :: S 301 :: S 302 :: S 303 :: S 304 :: S 305 :: S 306 :: S 307 :: []).toArray, []⟩ ∧ ∀ (i : Nat) (v : Value), a.tmps[i]? = some v → S i = v := by
  refine ⟨fun i => a.tmps.getD i undef, ?_, fun i v hv => Gate.slot_ hv⟩
  have e := Gate.slots_ a.tmps 308 hs
  rw [lit] at e
  cases a with
  | mk t d =>
    simp only at hd e
    subst hd
    rw [← e]
set_option maxHeartbeats 60000000 in
set_option maxRecDepth 20000 in
theorem qrest (w0 : World) (B fb bb n : Nat) (bd : List Value) (L0 : List Rec) (Gs : List Gl) (Rs : List Ref) (W : World) (a : Act) (c : Code) (hc : c = Gate.dropC 4 body) (hs : a.tmps.size = 308) (hd : a.defers = []) (h0 : a.tmps[0]? = some (.pointer (some ⟨fb, 0, none⟩))) (h1 : a.tmps[1]? = some (.pointer (some ⟨bb, 0, none⟩))) (h3 : a.tmps[3]? = some (.int .u32 0)) (h4 : a.tmps[4]? = some (.int .u32 1)) (h11 : a.tmps[11]? = some (.int .u32 (n : Int))) (hn : n = Rs.length) (hn3 : n ≤ 3) (hL0 : L0.length ≤ 100) (hBw : B ≤ w0.heap.size) (hstk : Stk bd Rs n) (hbuf : Buf W B bb bd L0) (hbel : Below B w0 W) (hpo : ∀ r ∈ Rs, PartOk Gs r) (hld : ∀ j, j < n → ∀ (W' : World) (bd' : List Value) (L : List Rec), Buf W' B bb bd' L → Agr bd bd' → Below B w0 W' → L.length ≤ 400 → Calls Tryd.prog 23 #[.pointer (some ⟨fb, 0, none⟩), .pointer (some ⟨bb, 0, none⟩), .int .u16 (Rs.getD j (0, 0, 0, 0, 0)).1, .int .u32 (n : Int), .int .u32 1] W' (LoadP B bb bd' (L ++ partOf Gs (Rs.getD j (0, 0, 0, 0, 0))) W')) : Code.wp Tryd.prog c (bodyPost Tryd.prog Tryd.f29 (RestP B bb (L0 ++ recsR Gs Rs) w0)) a W := by
  rw [hc]
  conv in (Gate.dropC _ _) => whnf
  obtain ⟨S, he, hS⟩ := open_ hs hd
  have e0 := hS 0 _ h0
  have e1 := hS 1 _ h1
  have e3 := hS 3 _ h3
  have e4 := hS 4 _ h4
  have e11 := hS 11 _ h11
  clear h0 h1 h3 h4 h11
  subst he
  clear hs hd hc hS
  rw [e0]
  clear e0
  rw [e1]
  clear e1
  rw [e3]
  clear e3
  rw [e4]
  clear e4
  rw [e11]
  clear e11
  have HP := Lib.hid (And.intro hn (And.intro hstk (And.intro hbuf (And.intro hbel (And.intro hpo hld)))))
  clear hn hstk hbuf hbel hpo hld
  go_wp2_with fail
  go_loopw [14] (fun i wr => ∃ (j : Nat) (bd' : List Value), i = .int .u32 (j : Int) ∧ j ≤ n ∧ Agr bd bd' ∧ Buf wr B bb bd' (L0 ++ recsR Gs (Rs.take j)) ∧ Below B w0 wr ∧ (recsR Gs (Rs.take j)).length ≤ 24 * j) (fun i _ => n - (intOf i).toNat)
  case atStart => exact ⟨0, bd, rfl, Nat.zero_le _, Agr.refl _, by simpa [recsR] using HP.out.2.2.1, HP.out.2.2.2.1, by simp [recsR]⟩
  case round =>
    obtain ⟨j, bd', rfl, hj, hag, hbuf, hbel, hlen⟩ := hrel
    obtain ⟨wo, hwo⟩ : ∃ W, W = wr := ⟨_, rfl⟩
    subst hwo
    by_cases hlt : j < n
    · have hjr : j < Rs.length := by rw [← HP.out.1]; exact hlt
      have htk := recsR_take Gs Rs j hjr
      obtain ⟨ht, xx, yy, c, ⟨e0, e1, e2, e3, e4, e5⟩, hcs⟩ := HP.out.2.1.agr hag j hlt
      have hpok := HP.out.2.2.2.2.1 (Rs.getD j (0, 0, 0, 0, 0)) (RowG.getD_mem _ _ _ hjr)
      have hcall := HP.out.2.2.2.2.2 j hlt wo bd' (L0 ++ recsR Gs (Rs.take j)) hbuf hag hbel (by rw [List.length_append]; omega)
      obtain ⟨r, hr⟩ : ∃ r, r = Rs.getD j (0, 0, 0, 0, 0) := ⟨_, rfl⟩
      rw [← hr] at htk e0 e1 e2 e4 e5 hpok hcall
      obtain ⟨LL, hLL⟩ : ∃ L, L = L0 ++ recsR Gs (Rs.take j) := ⟨_, rfl⟩
      rw [← hLL] at hbuf hcall
      have hLn : LL.length ≤ 200 := by rw [hLL, List.length_append]; omega
      obtain ⟨hb1, hb2, v, hv1, hv2⟩ := hbuf
      obtain ⟨A, cv, rfl, hA⟩ := segs_slice hv2
      obtain ⟨ln, hln⟩ : ∃ l, LL.length = l := ⟨_, rfl⟩
      rw [hln] at hv1 hv2 hA hLn
      have k1 := hb1.cell hv1
      have kg : wo.cell? ⟨bb, 2 + j * 8, none⟩ = some (.int .u16 r.1) := hb1.cell (by rw [← Nat.add_zero (2 + j * 8), hcs 0 (by omega)]; exact e0)
      have HR := Lib.hid (And.intro hag (And.intro hbel (And.intro htk (And.intro hcs (And.intro e1 (And.intro e2 (And.intro e3 (And.intro e4 (And.intro e5 (And.intro hpok (And.intro hLL hln)))))))))))
      have HC := Lib.hid hcall
      clear hag hbel htk hcs e0 e1 e2 e3 e4 e5 hpok hLL hln hcall hr hb1 hb2 hv1 hv2 hA hjr
      go_wp2_with fail
      refine HC.out.mono ?_
      rintro e W1 ⟨rfl, bd1, hag1, hbuf1, hbel1⟩
      obtain ⟨hb1, hb2, v1, hv1, hS1⟩ := hbuf1
      obtain ⟨A1, cv1, rfl, hA1⟩ := segs_slice hS1
      obtain ⟨P, hPd⟩ : ∃ P, P = partOf Gs r := ⟨_, rfl⟩
      have hpk := HR.out.2.2.2.2.2.2.2.2.2.1
      obtain ⟨np, hnp⟩ : ∃ n, P.length = n := ⟨_, rfl⟩
      have hnp24 : np ≤ 24 := by rw [← hnp, hPd]; exact hpk.len
      have hML : (LL ++ partOf Gs r).length = ln + np := by rw [List.length_append, ← hPd, hnp, HR.out.2.2.2.2.2.2.2.2.2.2.2]
      rw [hML] at hv1 hS1 hA1
      rw [← hPd] at hS1
      have hbel2 : Below B w0 W1 := HR.out.2.1.trans hbel1
      have HE : Hid (∀ W, Blk bb BT bd1 W → W.cell? ⟨bb, 2 + j * 8 + 1, none⟩ = some (.int .i16 r.2.1) ∧ W.cell? ⟨bb, 2 + j * 8 + 2, none⟩ = some (.int .i16 r.2.2.1) ∧ W.cell? ⟨bb, 2 + j * 8 + 3, none⟩ = some (.bool ht) ∧ (ht = true → W.cell? ⟨bb, 2 + j * 8 + 4, none⟩ = some (.int .i16 (r.2.2.2.1 * 4096)) ∧ W.cell? ⟨bb, 2 + j * 8 + 5, none⟩ = some (.int .i16 0) ∧ W.cell? ⟨bb, 2 + j * 8 + 6, none⟩ = some (.int .i16 0) ∧ W.cell? ⟨bb, 2 + j * 8 + 7, none⟩ = some (.int .i16 (r.2.2.2.2 * 4096)))) := Lib.hid (fun W hb => by
        have hc2 : ∀ i, i < 8 → bd1[2 + j * 8 + i]? = c[i]? := fun i hi => by rw [hag1.2 _ (by omega)]; exact HR.out.2.2.2.1 i hi
        obtain ⟨x1, x2, x3, x4⟩ := And.intro HR.out.2.2.2.2.1 (And.intro HR.out.2.2.2.2.2.1 (And.intro HR.out.2.2.2.2.2.2.1 HR.out.2.2.2.2.2.2.2.1))
        exact ⟨hb.cell ((hc2 1 (by omega)).trans x1), hb.cell ((hc2 2 (by omega)).trans x2), hb.cell ((hc2 3 (by omega)).trans x3), fun h => ⟨hb.cell ((hc2 4 (by omega)).trans (x4 h).1), hb.cell ((hc2 5 (by omega)).trans (x4 h).2.1), hb.cell ((hc2 6 (by omega)).trans (x4 h).2.2.1), hb.cell ((hc2 7 (by omega)).trans (x4 h).2.2.2)⟩⟩)
      have HAG := Lib.hid (HR.out.1.trans hag1)
      have HSC := Lib.hid HR.out.2.2.2.2.2.2.2.2.1
      have HB1 := Lib.hid (And.intro hb1 (And.intro hb2 (And.intro hv1 (And.intro hS1 hbel2))))
      have HNP := Lib.hid hnp
      have HLN := Lib.hid HR.out.2.2.2.2.2.2.2.2.2.2.2
      have HPD := Lib.hid hPd
      have HPK := Lib.hid (show PartOk Gs r from hpk)
      have HLE : Hid ((recsR Gs (Rs.take (j + 1))).length ≤ 24 * (j + 1)) := Lib.hid (by rw [HR.out.2.2.1, List.length_append, List.length_map]; have := hpk.len; omega)
      have d1 := hpk.dx
      have d2 := hpk.dy
      have w1 : IntKind.i32.wrap r.2.1 = r.2.1 := IntWalk.i32_in _ (by omega)
      have w2 : IntKind.i32.wrap r.2.2.1 = r.2.2.1 := IntWalk.i32_in _ (by omega)
      have x1 := (HE.out W1 hb1).1
      have x2 := (HE.out W1 hb1).2.1
      clear hb1 hb2 hv1 hS1 hbel2 hbel1 hag1 hnp hPd hpk hML HC k1 kg
      go_wp2_with fail
      go_quiet (fail)
      obtain ⟨X, hX⟩ : ∃ X, X = W1.drewN nq := ⟨_, rfl⟩
      have hbX : Blk bb BT bd1 X := by rw [hX]; exact HB1.out.1
      have hSX : Segs X B (.slice A1 (ln + np) cv1) (LL ++ P) := by rw [hX]; exact HB1.out.2.2.2.1
      have hdX : Below B w0 X := by rw [hX]; exact bel_draws HB1.out.2.2.2.2 nq
      rw [← hX]
      clear hX nq x1 x2
      have k1 := hbX.cell HB1.out.2.2.1
      have k3 := (HE.out X hbX).2.2.1
      have k47 := (HE.out X hbX).2.2.2
      have H2 := Lib.hid (And.intro hbX (And.intro hSX hdX))
      clear hbX hSX hdX
      by_cases hP0 : np = 0
      · subst hP0
        have hP : P = [] := List.eq_nil_of_length_eq_zero HNP.out
        have hLJ : LL ++ P = L0 ++ recsR Gs (Rs.take (j + 1)) := by rw [HR.out.2.2.1, ← HPD.out, hP, List.map_nil, List.append_nil, List.append_nil]; exact HR.out.2.2.2.2.2.2.2.2.2.2.1
        have HLJ := Lib.hid hLJ
        have hA2 : (A1 = none ∧ ln = 0 ∧ cv1 = 0) ∨ ∃ h, A1 = some ⟨h, 0, none⟩ ∧ ln ≤ cv1 := by
          rcases HB1.out.2.2.2.1.2 with ⟨e, h0⟩ | ⟨g, cap, cur, hv, _, _, hc, _⟩
          · injection e with a b c
            rw [List.length_append, HLN.out, HNP.out] at h0
            exact .inl ⟨a, by omega, c⟩
          · injection hv with a b c
            rw [List.length_append, HLN.out, HNP.out] at hc
            exact .inr ⟨g, a, by omega⟩
        clear hA1 hP hLJ
        rcases hA2 with ⟨rfl, rfl, rfl⟩ | ⟨h, rfl, hcv⟩
        · cases ht
          · clear k47
            go_wp2_with fail
            go_loopw [297] (fun i wr => i = .int .i64 0 ∧ Blk bb BT bd1 wr ∧ Segs wr B (.slice none (0 + 0) 0) (LL ++ P) ∧ Below B w0 wr) (fun i _ => 0)
            case atStart => exact ⟨rfl, H2.out.1, H2.out.2.1, H2.out.2.2⟩
            case round =>
              obtain ⟨rfl, hbm, hSm, hdm⟩ := hrel
              rw [HLJ.out] at hSm
              have HF := Lib.hid (And.intro hbm (And.intro hSm hdm))
              clear hbm hSm hdm
              go_wp2_with fail
              go_roundw
              case rel => exact ⟨j + 1, bd1, by go_num, by omega, HAG.out, ⟨HF.out.1, HB1.out.2.1, _, HB1.out.2.2.1, HF.out.2.1⟩, HF.out.2.2, HLE.out⟩
              case measure => simp [intOf]; omega
          · obtain ⟨k4, k5, k6, k7⟩ := k47 rfl
            clear k47
            go_wp2_with fail
            go_loopw [280] (fun i wr => i = .int .i64 0 ∧ Blk bb BT bd1 wr ∧ Segs wr B (.slice none (0 + 0) 0) (LL ++ P) ∧ Below B w0 wr) (fun i _ => 0)
            case atStart => exact ⟨rfl, H2.out.1, H2.out.2.1, H2.out.2.2⟩
            case round =>
              obtain ⟨rfl, hbm, hSm, hdm⟩ := hrel
              rw [HLJ.out] at hSm
              have HF := Lib.hid (And.intro hbm (And.intro hSm hdm))
              clear hbm hSm hdm
              go_wp2_with fail
              go_roundw
              case rel => exact ⟨j + 1, bd1, by go_num, by omega, HAG.out, ⟨HF.out.1, HB1.out.2.1, _, HB1.out.2.2.1, HF.out.2.1⟩, HF.out.2.2, HLE.out⟩
              case measure => simp [intOf]; omega
        · have q3 : (ln : Int) ≤ (cv1 : Int) := by omega
          by_cases q1 : cv1 = ln
          · subst q1
            cases ht
            · clear k47
              go_wp2_with fail
              go_loopw [297] (fun i wr => i = .int .i64 0 ∧ Blk bb BT bd1 wr ∧ Segs wr B (.slice (some ⟨h, 0, none⟩) (cv1 + 0) cv1) (LL ++ P) ∧ Below B w0 wr) (fun i _ => 0)
              case atStart => exact ⟨rfl, H2.out.1, H2.out.2.1, H2.out.2.2⟩
              case round =>
                obtain ⟨rfl, hbm, hSm, hdm⟩ := hrel
                rw [HLJ.out] at hSm
                have HF := Lib.hid (And.intro hbm (And.intro hSm hdm))
                clear hbm hSm hdm
                go_wp2_with fail
                go_roundw
                case rel => exact ⟨j + 1, bd1, by go_num, by omega, HAG.out, ⟨HF.out.1, HB1.out.2.1, _, HB1.out.2.2.1, HF.out.2.1⟩, HF.out.2.2, HLE.out⟩
                case measure => simp [intOf]; omega
            · obtain ⟨k4, k5, k6, k7⟩ := k47 rfl
              clear k47
              go_wp2_with fail
              go_loopw [280] (fun i wr => i = .int .i64 0 ∧ Blk bb BT bd1 wr ∧ Segs wr B (.slice (some ⟨h, 0, none⟩) (cv1 + 0) cv1) (LL ++ P) ∧ Below B w0 wr) (fun i _ => 0)
              case atStart => exact ⟨rfl, H2.out.1, H2.out.2.1, H2.out.2.2⟩
              case round =>
                obtain ⟨rfl, hbm, hSm, hdm⟩ := hrel
                rw [HLJ.out] at hSm
                have HF := Lib.hid (And.intro hbm (And.intro hSm hdm))
                clear hbm hSm hdm
                go_wp2_with fail
                go_roundw
                case rel => exact ⟨j + 1, bd1, by go_num, by omega, HAG.out, ⟨HF.out.1, HB1.out.2.1, _, HB1.out.2.2.1, HF.out.2.1⟩, HF.out.2.2, HLE.out⟩
                case measure => simp [intOf]; omega
          · cases ht
            · clear k47
              go_wp2_with fail
              go_loopw [297] (fun i wr => i = .int .i64 0 ∧ Blk bb BT bd1 wr ∧ Segs wr B (.slice (some ⟨h, 0, none⟩) (ln + 0) cv1) (LL ++ P) ∧ Below B w0 wr) (fun i _ => 0)
              case atStart => exact ⟨rfl, H2.out.1, H2.out.2.1, H2.out.2.2⟩
              case round =>
                obtain ⟨rfl, hbm, hSm, hdm⟩ := hrel
                rw [HLJ.out] at hSm
                have HF := Lib.hid (And.intro hbm (And.intro hSm hdm))
                clear hbm hSm hdm
                go_wp2_with fail
                go_roundw
                case rel => exact ⟨j + 1, bd1, by go_num, by omega, HAG.out, ⟨HF.out.1, HB1.out.2.1, _, HB1.out.2.2.1, HF.out.2.1⟩, HF.out.2.2, HLE.out⟩
                case measure => simp [intOf]; omega
            · obtain ⟨k4, k5, k6, k7⟩ := k47 rfl
              clear k47
              go_wp2_with fail
              go_loopw [280] (fun i wr => i = .int .i64 0 ∧ Blk bb BT bd1 wr ∧ Segs wr B (.slice (some ⟨h, 0, none⟩) (ln + 0) cv1) (LL ++ P) ∧ Below B w0 wr) (fun i _ => 0)
              case atStart => exact ⟨rfl, H2.out.1, H2.out.2.1, H2.out.2.2⟩
              case round =>
                obtain ⟨rfl, hbm, hSm, hdm⟩ := hrel
                rw [HLJ.out] at hSm
                have HF := Lib.hid (And.intro hbm (And.intro hSm hdm))
                clear hbm hSm hdm
                go_wp2_with fail
                go_roundw
                case rel => exact ⟨j + 1, bd1, by go_num, by omega, HAG.out, ⟨HF.out.1, HB1.out.2.1, _, HB1.out.2.2.1, HF.out.2.1⟩, HF.out.2.2, HLE.out⟩
                case measure => simp [intOf]; omega
      · have hposA : ∃ h, A1 = some ⟨h, 0, none⟩ ∧ ln + np ≤ cv1 ∧ IsT W1 h ST ∧ B ≤ h := hA1 (by omega)
        obtain ⟨h, rfl, hcv, hist, hBh⟩ := hposA
        have HIST : Hid (B ≤ h) := Lib.hid hBh
        clear hA1 hist hBh
        have q1 : ¬ cv1 = ln := by omega
        have q2 : ln ≤ cv1 := by omega
        have q3 : (ln : Int) ≤ (cv1 : Int) := by omega
        have q4 : (ln : Int) ≤ (ln : Int) + (np : Int) := by omega
        have q5 : ln + np - ln = np := by omega
        have q6 : ln ≤ ln + np := by omega
        cases ht
        · clear k47
          have HS4 := Lib.hid (HSC.out rfl)
          go_wp2_with fail
          go_loopw [297] (fun i wr => ∃ m : Nat, i = .int .i64 (m : Int) ∧ m ≤ np ∧ Blk bb BT bd1 wr ∧ Segs wr B (.slice (some ⟨h, 0, none⟩) (ln + np) cv1) (LL ++ (P.take m).map (trRec r) ++ P.drop m) ∧ Below B w0 wr) (fun i _ => np - (intOf i).toNat)
          case atStart => exact ⟨0, rfl, Nat.zero_le _, H2.out.1, by simpa using H2.out.2.1, H2.out.2.2⟩
          case round =>
            obtain ⟨m, rfl, hm, hbm, hSm, hdm⟩ := hrel
            obtain ⟨wi, hwi⟩ : ∃ W, W = wr := ⟨_, rfl⟩
            subst hwi
            by_cases hltm : m < np
            · have hmP : m < P.length := by rw [HNP.out]; exact hltm
              have hdr : P.drop m = P.getD m (0, (0, 0), (0, 0), (0, 0)) :: P.drop (m + 1) := by
                rw [List.drop_eq_getElem_cons hmP, List.getD_eq_getElem?_getD, List.getElem?_eq_getElem hmP]; rfl
              rw [hdr] at hSm
              obtain ⟨pre, post, hsix, hback⟩ := segs_six hSm
              have hq := HPK.out.q4 (P.getD m (0, (0, 0), (0, 0), (0, 0))) (by rw [← HPD.out]; exact RowG.getD_mem P m _ hmP)
              have hrn := rel_next (LL := LL) (r := r) hmP
              obtain ⟨x, hx⟩ : ∃ x, x = P.getD m (0, (0, 0), (0, 0), (0, 0)) := ⟨_, rfl⟩
              rw [← hx] at hsix hback hq hrn
              rw [show (LL ++ (P.take m).map (trRec r)).length * 7 + 1 = ln * 7 + m * 7 + 1 from by rw [List.length_append, List.length_map, List.length_take, HNP.out, HLN.out, Nat.min_eq_left hm]; omega] at hsix hback
              have HCL := Lib.hid (translate_any h (ln * 7 + m * 7 + 1) pre post x.2.1 x.2.2.1 x.2.2.2 r.2.1 r.2.2.1 wi hsix (q4_sm hq.1) (q4_sm hq.2.1) (q4_sm hq.2.2) (by omega) (by omega))
              have hist := own_isT hSm (g := h) rfl
              have HM := Lib.hid (And.intro hbm (And.intro hdm (And.intro hrn (And.intro hist hback))))
              clear hist hdr hSm hsix hback hq hrn hbm hdm hx hmP
              go_wp2_with fail
              refine HCL.out.mono ?_
              rintro e W2 ⟨rfl, h6, hg6⟩
              have hS2 := HM.out.2.2.2.2 W2 _ _ _ h6
              rw [show (x.1, (x.2.1.1 + r.2.1, x.2.1.2 + r.2.2.1), (x.2.2.1.1 + r.2.1, x.2.2.1.2 + r.2.2.1), (x.2.2.2.1 + r.2.1, x.2.2.2.2 + r.2.2.1)) = trRec r x from by unfold trRec; rw [HS4.out.1, HS4.out.2, tp4, tp4, tp4]] at hS2
              have hbm2 := blk_grown HM.out.1 hg6 (fun e => (IsT.ne HM.out.2.2.2.1.1 ⟨_, HM.out.1⟩ (by decide)) (Option.some.inj e))
              have hdm2 := HM.out.2.1.grown hg6 (Nat.le_trans hBw HM.out.2.1.size) (fun b e => by rw [← Option.some.inj e]; exact HM.out.2.2.2.1.2)
              have H6 := Lib.hid (And.intro hbm2 (And.intro hS2 hdm2))
              clear h6 hg6 hS2 hbm2 hdm2
              go_wp2_with fail
              go_roundw
              case rel => exact ⟨m + 1, by go_num, by omega, H6.out.1, by rw [HM.out.2.2.1]; exact H6.out.2.1, H6.out.2.2⟩
              case measure => simp [intOf]; omega
            · obtain rfl : np = m := by omega
              have htk : P.take np = P := by rw [← HNP.out, List.take_length]
              have hdk : P.drop np = [] := by rw [← HNP.out, List.drop_length]
              rw [htk, hdk, List.append_nil, HR.out.2.2.2.2.2.2.2.2.2.2.1, List.append_assoc, HPD.out, ← HR.out.2.2.1] at hSm
              have HF := Lib.hid (And.intro hbm (And.intro hSm hdm))
              clear hbm hSm hdm htk hdk
              go_wp2_with fail
              go_roundw
              case rel => exact ⟨j + 1, bd1, by go_num, by omega, HAG.out, ⟨HF.out.1, HB1.out.2.1, _, HB1.out.2.2.1, HF.out.2.1⟩, HF.out.2.2, HLE.out⟩
              case measure => simp [intOf]; omega
        · obtain ⟨k4, k5, k6, k7⟩ := k47 rfl
          clear k47
          go_wp2_with fail
          go_loopw [280] (fun i wr => ∃ m : Nat, i = .int .i64 (m : Int) ∧ m ≤ np ∧ Blk bb BT bd1 wr ∧ Segs wr B (.slice (some ⟨h, 0, none⟩) (ln + np) cv1) (LL ++ (P.take m).map (trRec r) ++ P.drop m) ∧ Below B w0 wr) (fun i _ => np - (intOf i).toNat)
          case atStart => exact ⟨0, rfl, Nat.zero_le _, H2.out.1, by simpa using H2.out.2.1, H2.out.2.2⟩
          case round =>
            obtain ⟨m, rfl, hm, hbm, hSm, hdm⟩ := hrel
            obtain ⟨wi, hwi⟩ : ∃ W, W = wr := ⟨_, rfl⟩
            subst hwi
            by_cases hltm : m < np
            · have hmP : m < P.length := by rw [HNP.out]; exact hltm
              have hdr : P.drop m = P.getD m (0, (0, 0), (0, 0), (0, 0)) :: P.drop (m + 1) := by
                rw [List.drop_eq_getElem_cons hmP, List.getD_eq_getElem?_getD, List.getElem?_eq_getElem hmP]; rfl
              rw [hdr] at hSm
              obtain ⟨pre, post, hsix, hback⟩ := segs_six hSm
              have hq := HPK.out.q4 (P.getD m (0, (0, 0), (0, 0), (0, 0))) (by rw [← HPD.out]; exact RowG.getD_mem P m _ hmP)
              have hrn := rel_next (LL := LL) (r := r) hmP
              obtain ⟨x, hx⟩ : ∃ x, x = P.getD m (0, (0, 0), (0, 0), (0, 0)) := ⟨_, rfl⟩
              rw [← hx] at hsix hback hq hrn
              rw [show (LL ++ (P.take m).map (trRec r)).length * 7 + 1 = ln * 7 + m * 7 + 1 from by rw [List.length_append, List.length_map, List.length_take, HNP.out, HLN.out, Nat.min_eq_left hm]; omega] at hsix hback
              have HCL := Lib.hid (transform_any h (ln * 7 + m * 7 + 1) pre post x.2.1 x.2.2.1 x.2.2.2 r.2.2.2.1 r.2.2.2.2 r.2.1 r.2.2.1 wi hsix hq.1 hq.2.1 hq.2.2 HPK.out.sx HPK.out.sy (by omega) (by omega))
              have hist := own_isT hSm (g := h) rfl
              have HM := Lib.hid (And.intro hbm (And.intro hdm (And.intro hrn (And.intro hist hback))))
              clear hist hdr hSm hsix hback hq hrn hbm hdm hx hmP
              go_wp2_with fail
              refine HCL.out.mono ?_
              rintro e W2 ⟨rfl, h6, hg6⟩
              have hS2 := HM.out.2.2.2.2 W2 _ _ _ h6
              have hS2 : Segs W2 B (.slice (some ⟨h, 0, none⟩) (ln + np) cv1) (LL ++ (P.take m).map (trRec r) ++ trRec r x :: P.drop (m + 1)) := hS2
              have hbm2 := blk_grown HM.out.1 hg6 (fun e => (IsT.ne HM.out.2.2.2.1.1 ⟨_, HM.out.1⟩ (by decide)) (Option.some.inj e))
              have hdm2 := HM.out.2.1.grown hg6 (Nat.le_trans hBw HM.out.2.1.size) (fun b e => by rw [← Option.some.inj e]; exact HM.out.2.2.2.1.2)
              have H6 := Lib.hid (And.intro hbm2 (And.intro hS2 hdm2))
              clear h6 hg6 hS2 hbm2 hdm2
              go_wp2_with fail
              go_roundw
              case rel => exact ⟨m + 1, by go_num, by omega, H6.out.1, by rw [HM.out.2.2.1]; exact H6.out.2.1, H6.out.2.2⟩
              case measure => simp [intOf]; omega
            · obtain rfl : np = m := by omega
              have htk : P.take np = P := by rw [← HNP.out, List.take_length]
              have hdk : P.drop np = [] := by rw [← HNP.out, List.drop_length]
              rw [htk, hdk, List.append_nil, HR.out.2.2.2.2.2.2.2.2.2.2.1, List.append_assoc, HPD.out, ← HR.out.2.2.1] at hSm
              have HF := Lib.hid (And.intro hbm (And.intro hSm hdm))
              clear hbm hSm hdm htk hdk
              go_wp2_with fail
              go_roundw
              case rel => exact ⟨j + 1, bd1, by go_num, by omega, HAG.out, ⟨HF.out.1, HB1.out.2.1, _, HB1.out.2.2.1, HF.out.2.1⟩, HF.out.2.2, HLE.out⟩
              case measure => simp [intOf]; omega
    · obtain rfl : n = j := by omega
      have htl : Rs.take n = Rs := by rw [HP.out.1, List.take_length]
      rw [htl] at hbuf
      have HF := Lib.hid (And.intro hbuf hbel)
      clear hag hbuf hbel hlen htl
      go_wp2_with fail
      go_ret
      exact ⟨rfl, bd', HF.out.1, HF.out.2⟩
end Go.Proofs.YtdeaodgcdacleaaDoor.LdD
