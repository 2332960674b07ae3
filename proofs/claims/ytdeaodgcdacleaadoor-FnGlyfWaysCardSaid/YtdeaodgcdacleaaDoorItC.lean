/- Contract of the reader's next point. -/
import Derived.Test.YtdeaodgcdacleaaDoorItB
import Derived.Test.YtdeaodgcdacleaaDoorGate
import Derived.Test.YtdeaodgcdacleaaDoorSfntB
import Derived.Test.YtdeaodgcdacleaaDoorStl
import Derived.Test.YtdeaodgcdacleaaDoorTail
import Derived.Lib.Hide
import Derived.Deep.QuietTactic
import Derived.BigQuiet
import Derived.Deep.CutBlock
namespace Go.Proofs.YtdeaodgcdacleaaDoor.ItC
open Go.ChangeShapes Go.WideShapes Go.ChangeAt Go.RowKit
open Lst Mem RowG GlyM IdxB DatE ItA ItB PthA SpecB
set_option linter.unusedSimpArgs false
set_option linter.unusedVariables false
theorem gset (w : World) (b i : Nat) (v : Value) : w.grownBy (w.setCell ⟨b, i, none⟩ v) (some b) := by
  refine ⟨rfl, rfl, rfl, by simp [World.setCell], fun j _ hj => ?_⟩
  exact Below.heap_setCell _ _ _ _ (fun e => hj (by rw [e]))
theorem gtr {a b c : World} {row : Option Nat} (h : a.grownBy b row) (k : b.grownBy c row) : a.grownBy c row :=
  ⟨k.os.trans h.os, k.tape.trans h.tape, k.output.trans h.output, Nat.le_trans h.size k.size, fun i hi hn => (k.block i (Nat.lt_of_lt_of_le hi h.size) hn).trans (h.block i hi hn)⟩
theorem gdrew {w w' : World} {r : Option Nat} (h : w.grownBy w' r) : w.grownBy w'.drew r := ⟨h.os, h.tape, h.output, h.size, h.block⟩
theorem byt_cell {w : World} {g off i : Nat} {bs : List Int} (h : At w g off (vals .u8 bs)) (hi : i < bs.length) : w.cell? ⟨g, off + i, none⟩ = some (.int .u8 (bs.getD i 0)) :=
  h i _ (by rw [vals_at, List.getElem?_eq_getElem hi, List.getD_eq_getElem?_getD, List.getElem?_eq_getElem hi]; rfl)
theorem sub_one {bs : List Int} {i : Nat} {b : Int} (h : Sub bs i [b]) : i < bs.length ∧ bs.getD i 0 = b := by
  have h1 := h.1
  have h2 := h.2 0 (by simp)
  simp at h1
  rw [Nat.add_zero] at h2
  exact ⟨by omega, h2⟩
theorem sub_two {bs : List Int} {i : Nat} {b b' : Int} (h : Sub bs i [b, b']) : i + 1 < bs.length ∧ bs.getD i 0 = b ∧ bs.getD (i + 1) 0 = b' := by
  have h1 := h.1
  have h2 := h.2 0 (by simp)
  have h3 := h.2 1 (by simp)
  simp at h1
  rw [Nat.add_zero] at h2
  exact ⟨by omega, h2, h3⟩
theorem word_in (v : Int) (h : -32768 ≤ v ∧ v ≤ 32767) : IntKind.i16.wrap (hi v * 256 + lo v) = v := by
  have e : hi v * 256 + lo v = v % 65536 := by unfold hi lo; omega
  rw [e]
  simp only [IntKind.wrap, IntKind.bits, IntKind.signed]; simp; split <;> omega
theorem word_back {x d : Int} (hx : -4096 ≤ x ∧ x ≤ 4096) (hd : -4096 ≤ d ∧ d ≤ 4096) : IntKind.i16.wrap (x + IntKind.i16.wrap (hi (d - x) * 256 + lo (d - x))) = d := by
  rw [word_in _ (by omega), IntWalk.i16_in _ (by omega)]
  omega
theorem hi_bd (d : Int) : 0 ≤ hi d ∧ hi d ≤ 255 := by unfold hi; omega
theorem lo_bd (d : Int) : 0 ≤ lo d ∧ lo d ≤ 255 := by unfold lo; omega
/-- what the next x and the next y are read of -/
def Xnx (t : It) (bs : List Int) (X M : Int) : Prop := ∃ (ix : Nat) (bx : List Int), t.xi = (ix : Int) ∧ (-4096 ≤ t.x ∧ t.x ≤ 4096) ∧ (-4096 ≤ X ∧ X ≤ 4096) ∧ Xd t.fl bx (X - t.x) ∧ Sub bs ix bx ∧ M = (ix : Int) + (bx.length : Int)
def Ynx (t : It) (bs : List Int) (Y N : Int) : Prop := ∃ (iy : Nat) (by' : List Int), t.yi = (iy : Int) ∧ (-4096 ≤ t.y ∧ t.y ≤ 4096) ∧ (-4096 ≤ Y ∧ Y ≤ 4096) ∧ Yd t.fl by' (Y - t.y) ∧ Sub bs iy by' ∧ N = (iy : Int) + (by'.length : Int)
def Fnx (t : It) (bs : List Int) (FL RP FI : Int) : Prop := ∃ (rep p rep' p' : Nat), t.rp = (rep : Int) ∧ t.fi = (p : Int) ∧ Fetch bs t.fl rep p FL rep' p' ∧ RP = (rep' : Int) ∧ FI = (p' : Int)
def PtP (gb : Nat) (D E : Value) (t : It) (W : World) (e : Ending) (w' : World) : Prop := e = .returned (.bool true) ∧ Blk gb IT (t.cs D E) w' ∧ W.grownBy w' (some gb)

noncomputable def body : Code := Tryd.f39.body.getD .skip
set_option maxRecDepth 20000 in
theorem lit (S : Nat → Value) : (List.range 258).map S = S 0 :: S 1 :: S 2 :: S 3 :: S 4 :: S 5 :: S 6 :: S 7 :: S 8 :: S 9 :: S 10 :: S 11 :: S 12 :: S 13 :: S 14 :: S 15 :: S 16 :: S 17 :: S 18 :: S 19 :: S 20 :: S 21 :: S 22 :: S 23 :: S 24 :: S 25 :: S 26 :: S 27 :: S 28 :: S 29 :: S 30 :: S 31 :: S 32 :: S 33 :: S 34 :: S 35 :: S 36 :: S 37 :: S 38 :: S 39 :: S 40 :: S 41 :: S 42 :: S 43 :: S 44 :: S 45 :: S 46 :: S 47 :: S 48 :: S 49 :: S 50 :: S 51 :: S 52 :: S 53 :: S 54 :: S 55 :: S 56 :: S 57 :: S 58 :: S 59 :: S 60 :: S 61 :: S 62 :: S 63 :: S 64 :: S 65 :: S 66 :: S 67 :: S 68 :: S 69 :: S 70 :: S 71 :: S 72 :: S 73 :: S 74 :: S 75 :: S 76 :: S 77 :: S 78 :: S 79 :: S 80 :: S 81 :: S 82 :: S 83 :: S 84 :: S 85 :: S 86 :: S 87 :: S 88 :: S 89 :: S 90 :: S 91 :: S 92 :: S 93 :: S 94 :: S 95 :: S 96 :: S 97 :: S 98 :: S 99 :: S 100 :: S 101 :: S 102 :: S 103 :: S 104 :: S 105 :: S 106 :: S 107 :: S 108 :: S 109 :: S 110 :: S 111 :: S 112 :: S 113 :: S 114 :: S 115 :: S 116 :: S 117 :: S 118 :: S 119 :: S 120 :: S 121 :: S 122 :: S 123 :: S 124 :: S 125 :: S 126 :: S 127 :: S 128 :: S 129 :: S 130 :: S 131 :: S 132 :: S 133 :: S 134 :: S 135 :: S 136 :: S 137 :: S 138 :: S 139 :: S 140 :: S 141 :: S 142 :: S 143 :: S 144 :: S 145 :: S 146 :: S 147 :: S 148 :: S 149 :: S 150 :: S 151 :: S 152 :: S 153 :: S 154 :: S 155 :: S 156 :: S 157 :: S 158 :: S 159 :: S 160 :: S 161 :: S 162 :: S 163 :: S 164 :: S 165 :: S 166 :: S 167 :: S 168 :: S 169 :: S 170 :: S 171 :: S 172 :: S 173 :: S 174 :: S 175 :: S 176 :: S 177 :: S 178 :: S 179 :: S 180 :: S 181 :: S 182 :: S 183 :: S 184 :: S 185 :: S 186 :: S 187 :: S 188 :: S 189 :: S 190 :: S 191 :: S 192 :: S 193 :: S 194 :: S 195 :: S 196 :: S 197 :: S 198 :: S 199 :: S 200 :: S 201 :: S 202 :: S 203 :: S 204 :: S 205 :: S 206 :: S 207 :: S 208 :: S 209 :: S 210 :: S 211 :: S 212 :: S 213 :: S 214 :: S 215 :: S 216 :: S 217 :: S 218 :: S 219 :: S 220 :: S 221 :: S 222 :: S 223 :: S 224 :: S 225 :: S 226 :: S 227 :: S 228 :: S 229 :: S 230 :: S 231 :: S 232 :: S 233 :: S 234 :: S 235 :: S 236 :: S 237 :: S 238 :: S 239 :: S 240 :: S 241 :: S 242 :: S 243 :: S 244 :: S 245 :: S 246 :: S 247 :: S 248 :: S 249 :: S 250 :: S 251 :: S 252 :: S 253 :: S 254 :: S 255 :: S 256 :: S 257 :: [] := by kernel_rfl
set_option maxRecDepth 20000 in
theorem open_ {a : Act} (hs : a.tmps.size = 258) (hd : a.defers = []) : ∃ S : Nat → Value, a = ⟨(S 0 :: S 1 :: S 2 :: S 3 :: S 4 :: S 5 :: S 6 :: S 7 :: S 8 :: S 9 :: S 10 :: S 11 :: S 12 :: S 13 :: S 14 :: S 15 :: S 16 :: S 17 :: S 18 :: S 19 :: S 20 :: S 21 :: S 22 :: S 23 :: S 24 :: S 25 :: S 26 :: S 27 :: S 28 :: S 29 :: S 30 :: S 31 :: S 32 :: S 33 :: S 34 :: S 35 :: S 36 :: S 37 :: S 38 :: S 39 :: S 40 :: S 41 :: S 42 :: S 43 :: S 44 :: S 45 :: S 46 :: S 47 :: S 48 :: S 49 :: S 50 :: S 51 :: S 52 :: S 53 :: S 54 :: S 55 :: S 56 :: S 57 :: S 58 :: S 59 :: S 60 :: S 61 :: S 62 :: S 63 :: S 64 :: S 65 :: S 66 :: S 67 :: S 68 :: S 69 :: S 70 :: S 71 :: S 72 :: S 73 :: S 74 :: S 75 :: S 76 :: S 77 :: S 78 :: S 79 :: S 80 :: S 81 :: S 82 :: S 83 :: S 84 :: S 85 :: S 86 :: S 87 :: S 88 :: S 89 :: S 90 :: S 91 :: S 92 :: S 93 :: S 94 :: S 95 :: S 96 :: S 97 :: S 98 :: S 99 :: S 100 :: S 101 :: S 102 :: S 103 :: S 104 :: S 105 :: S 106 :: S 107 :: S 108 :: S 109 :: S 110 :: S 111 :: S 112 :: S 113 :: S 114 :: S 115 :: S 116 :: S 117 :: S 118 :: S 119 :: S 120 :: S 121 :: S 122 :: S 123 :: S 124 :: S 125 :: S 126 :: S 127 :: S 128 :: S 129 :: S 130 :: S 131 :: S 132 :: S 133 :: S 134 :: S 135 :: S 136 :: S 137 :: S 138 :: S 139 :: S 140 :: S 141 :: S 142 :: S 143 :: S 144 :: S 145 :: S 146 :: S 147 :: S 148 :: S 149 :: S 150 :: S 151 :: S 152 :: S 153 :: S 154 :: S 155 :: S 156 :: S 157 :: S 158 :: S 159 :: S 160 :: S 161 :: S 162 :: S 163 :: S 164 :: S 165 :: S 166 :: S 167 :: S 168 :: S 169 :: S 170 :: S 171 :: S 172 :: S 173 :: S 174 :: S 175 :: S 176 :: S 177 :: S 178 :: S 179 :: S 180 :: S 181 :: S 182 :: S 183 :: S 184 :: S 185 :: S 186 :: S 187 :: S 188 :: S 189 :: S 190 :: S 191 :: S 192 :: S 193 :: S 194 :: S 195 :: S 196 :: S 197 :: S 198 :: S 199 :: S 200 :: S 201 :: S 202 :: S 203 :: S 204 :: S 205 :: S 206 :: S 207 :: S 208 :: S 209 :: S 210 :: S 211 :: S 212 :: S 213 :: S 214 :: S 215 :: S 216 :: S 217 :: S 218 :: S 219 :: S 220 :: S 221 :: S 222 :: S 223 :: S 224 :: S 225 :: S 226 :: S 227 :: S 228 :: S 229 :: S 230 :: S 231 :: S 232 :: S 233 :: S 234 :: S 235 :: S 236 :: S 237 :: S 238 :: S 239 :: S 240 :: S 241 :: S 242 :: S 243 :: S 244 :: S 245 :: S 246 :: S 247 :: S 248 :: S 249 :: S 250 :: S 251 :: S 252 :: S 253 :: S 254 :: S 255 :: S 256 :: S 257 :: []).toArray, []⟩ ∧ ∀ (i : Nat) (v : Value), a.tmps[i]? = some v → S i = v := by
  refine ⟨fun i => a.tmps.getD i undef, ?_, fun i v hv => Gate.slot_ hv⟩
  have e := Gate.slots_ a.tmps 258 hs
  rw [lit] at e
  cases a with
  | mk t d =>
    simp only at hd e
    subst hd
    rw [← e]
set_option maxHeartbeats 60000000 in
set_option maxRecDepth 20000 in
theorem q6 (w0 : World) (gb : Nat) (D E : Value) (t : It) (W : World) (a : Act) (c : Code) (hc : c = Gate.dropC 6 body) (hs : a.tmps.size = 258) (hd : a.defers = []) (h0 : a.tmps[0]? = some (.pointer (some ⟨gb, 0, none⟩))) (hB : Blk gb IT (t.cs D E) W) (hg : w0.grownBy W (some gb)) : Code.wp Tryd.prog c (bodyPost Tryd.prog Tryd.f39 (PtP gb D E { t with on := bt t.fl 1 } w0)) a W := by
  rw [hc]
  conv in (Gate.dropC _ _) => whnf
  obtain ⟨S, he, hS⟩ := open_ hs hd
  have e0 := hS 0 _ h0
  clear h0
  subst he
  clear hs hd hc hS
  rw [e0]
  clear e0
  have c15 := hB.cell (i := 15) rfl
  have c14 := hB.cell (i := 14) rfl
  have cf := hB.frozen
  have HB := Lib.hid (And.intro hB hg)
  clear hB hg
  go_wp2
  go_ret
  exact ⟨rfl, HB.out.1.set_ 14 _, gtr HB.out.2 (gset W gb 14 _)⟩
set_option maxHeartbeats 60000000 in
set_option maxRecDepth 20000 in
theorem q5 (w0 : World) (gb g off n cp : Nat) (E : Value) (t : It) (bs : List Int) (Y N : Int) (W : World) (a : Act) (c : Code) (hc : c = Gate.dropC 5 body) (hs : a.tmps.size = 258) (hd : a.defers = []) (h0 : a.tmps[0]? = some (.pointer (some ⟨gb, 0, none⟩))) (hB : Blk gb IT (t.cs (.slice (some ⟨g, off, none⟩) n cp) E) W) (hg : w0.grownBy W (some gb)) (hne : g ≠ gb) (hA : At W g off (vals .u8 bs)) (hn : n = bs.length) (hcp : n ≤ cp) (hn2 : n ≤ 100000) (hq : Ynx t bs Y N) : Code.wp Tryd.prog c (bodyPost Tryd.prog Tryd.f39 (PtP gb (.slice (some ⟨g, off, none⟩) n cp) E { t with y := Y, yi := N, on := bt t.fl 1 } w0)) a W := by
  rw [hc]
  conv in (Gate.dropC _ _) => whnf
  obtain ⟨S, he, hS⟩ := open_ hs hd
  have e0 := hS 0 _ h0
  clear h0
  subst he
  clear hs hd hc hS
  rw [e0]
  clear e0
  obtain ⟨ix, bx, hidx, hby, hbd, hy, hsb, hN⟩ := hq
  have hnH := Lib.hid hn
  have cf := hB.frozen
  have c15 := hB.cell (i := 15) rfl
  have c4 : W.cell? ⟨gb, 4, none⟩ = some (.int .i32 (ix : Int)) := hB.cell (i := 4) (by rw [← hidx]; rfl)
  have c13 := hB.cell (i := 13) rfl
  have c0 := hB.cell (i := 0) rfl
  cases hs4 : bt t.fl 4
  · have b4 : (bits BinOp.and IntKind.u8 t.fl 4 != 0) = false := hs4
    cases hp32 : bt t.fl 32
    · have b32 : (bits BinOp.and IntKind.u8 t.fl 32 == 0) = true := eq_of_bt hp32
      unfold Yd at hy
      rw [hs4, hp32] at hy
      obtain rfl : bx = [hi (Y - t.y), lo (Y - t.y)] := hy
      obtain ⟨hl, hb, hb'⟩ := sub_two hsb
      have q1 := hi_bd (Y - t.y)
      have q2 := lo_bd (Y - t.y)
      have e1 := word_back hby hbd
      obtain ⟨h1, hh1⟩ : ∃ h, hi (Y - t.y) = h := ⟨_, rfl⟩
      obtain ⟨h2, hh2⟩ : ∃ h, lo (Y - t.y) = h := ⟨_, rfl⟩
      rw [hh1] at hb q1 e1
      rw [hh2] at hb' q2 e1
      have hl1 : ix ≤ n := by omega
      have hl2 : ix ≤ cp := by omega
      have hl3 : (ix : Int) ≤ (cp : Int) := by omega
      have hl4 : 2 ≤ n - ix := by omega
      have hl5 : (n : Int) - (ix : Int) = ((n - ix : Nat) : Int) := by omega
      have HV := Lib.hid (And.intro hB (And.intro hg (And.intro hidx (And.intro hA (And.intro hn (And.intro hl (And.intro hb (And.intro hb' (And.intro hN e1)))))))))
      have HU : Hid (∀ W' : World, At W' g off (vals .u8 bs) → W'.cell? ⟨g, off + ix, none⟩ = some (.int .u8 h1) ∧ W'.cell? ⟨g, off + ix + 1, none⟩ = some (.int .u8 h2)) := Lib.hid (fun W' h => ⟨by have := byt_cell h (show ix < bs.length by omega); rw [hb] at this; exact this, by have := byt_cell h hl; rw [hb'] at this; rw [Nat.add_assoc]; exact this⟩)
      have hl6 : ¬ cp = ix := by omega
      clear hB hg hidx hA hsb hb hb' hl hs4 hp32 hn hN e1 hh1 hh2 hl5
      go_wp2
      clear c4 c13 c0 c15 cf
      refine Tail.start (S := (fun w' => Blk gb IT (t.cs (.slice (some ⟨g, off, none⟩) n cp) E) w' ∧ At w' g off (vals .u8 bs))) (tl := [18]) (by kernel_rfl) ⟨HV.out.1, HV.out.2.2.2.1⟩ (fun hHeld => ?_)
      refine Tail.take (i := 0) (v := ?vq1) rfl (by kernel_rfl) (by kernel_rfl) (by kernel_rfl) (by kernel_rfl) (by kernel_rfl) (fun _ _ _ h => h) (Or.inl ⟨by rfl, ?hyq1⟩) (by assumption) ?restq1
      case hyq1 => (intro w1 hS; go_simp <;> with_reducible rfl)
      try simp only [Act.put, List.getElem_toArray, List.getElem_cons_zero, List.getElem_cons_succ, List.setIfInBounds_toArray, List.set_cons_zero, List.set_cons_succ]
      refine Tail.take (i := 1) (v := ?vq2) rfl (by kernel_rfl) (by kernel_rfl) (by kernel_rfl) (by kernel_rfl) (by kernel_rfl) (fun _ _ _ h => h) (Or.inl ⟨by rfl, ?hyq2⟩) (by assumption) ?restq2
      case hyq2 => (intro w1 hS; go_simp <;> with_reducible rfl)
      try simp only [Act.put, List.getElem_toArray, List.getElem_cons_zero, List.getElem_cons_succ, List.setIfInBounds_toArray, List.set_cons_zero, List.set_cons_succ]
      refine Tail.take (i := 2) (v := ?vq3) rfl (by kernel_rfl) (by kernel_rfl) (by kernel_rfl) (by kernel_rfl) (by kernel_rfl) (fun _ _ _ h => h) (Or.inl ⟨by rfl, ?hyq3⟩) (by assumption) ?restq3
      case hyq3 => (intro w1 hS; go_simp <;> with_reducible rfl)
      try simp only [Act.put, List.getElem_toArray, List.getElem_cons_zero, List.getElem_cons_succ, List.setIfInBounds_toArray, List.set_cons_zero, List.set_cons_succ]
      refine Tail.take (i := 3) (v := ?vq4) rfl (by kernel_rfl) (by kernel_rfl) (by kernel_rfl) (by kernel_rfl) (by kernel_rfl) (fun _ _ _ h => h) (Or.inl ⟨by rfl, ?hyq4⟩) (by assumption) ?restq4
      case hyq4 => (intro w1 hS; have k := hS.1.cell (i := 13) rfl; go_simp <;> with_reducible rfl)
      try simp only [Act.put, List.getElem_toArray, List.getElem_cons_zero, List.getElem_cons_succ, List.setIfInBounds_toArray, List.set_cons_zero, List.set_cons_succ]
      refine Tail.take (i := 4) (v := ?vq5) rfl (by kernel_rfl) (by kernel_rfl) (by kernel_rfl) (by kernel_rfl) (by kernel_rfl) (fun _ _ _ h => h) (Or.inl ⟨by rfl, ?hyq5⟩) (by assumption) ?restq5
      case hyq5 => (intro w1 hS; go_simp <;> with_reducible rfl)
      try simp only [Act.put, List.getElem_toArray, List.getElem_cons_zero, List.getElem_cons_succ, List.setIfInBounds_toArray, List.set_cons_zero, List.set_cons_succ]
      refine Tail.take (i := 5) (v := ?vq6) rfl (by kernel_rfl) (by kernel_rfl) (by kernel_rfl) (by kernel_rfl) (by kernel_rfl) (fun _ _ _ h => h) (Or.inl ⟨by rfl, ?hyq6⟩) (by assumption) ?restq6
      case hyq6 => (intro w1 hS; go_simp <;> with_reducible rfl)
      try simp only [Act.put, List.getElem_toArray, List.getElem_cons_zero, List.getElem_cons_succ, List.setIfInBounds_toArray, List.set_cons_zero, List.set_cons_succ]
      refine Tail.take (i := 6) (v := ?vq7) rfl (by kernel_rfl) (by kernel_rfl) (by kernel_rfl) (by kernel_rfl) (by kernel_rfl) (fun _ _ _ h => h) (Or.inl ⟨by rfl, ?hyq7⟩) (by assumption) ?restq7
      case hyq7 => (intro w1 hS; go_simp <;> with_reducible rfl)
      try simp only [Act.put, List.getElem_toArray, List.getElem_cons_zero, List.getElem_cons_succ, List.setIfInBounds_toArray, List.set_cons_zero, List.set_cons_succ]
      refine Tail.take (i := 7) (v := ?vq8) rfl (by kernel_rfl) (by kernel_rfl) (by kernel_rfl) (by kernel_rfl) (by kernel_rfl) (fun _ _ _ h => h) (Or.inl ⟨by rfl, ?hyq8⟩) (by assumption) ?restq8
      case hyq8 => (intro w1 hS; have k := hS.1.cell (i := 0) rfl; go_simp <;> with_reducible rfl)
      try simp only [Act.put, List.getElem_toArray, List.getElem_cons_zero, List.getElem_cons_succ, List.setIfInBounds_toArray, List.set_cons_zero, List.set_cons_succ]
      refine Tail.take (i := 8) (v := ?vq9) rfl (by kernel_rfl) (by kernel_rfl) (by kernel_rfl) (by kernel_rfl) (by kernel_rfl) (fun _ _ _ h => h) (Or.inl ⟨by rfl, ?hyq9⟩) (by assumption) ?restq9
      case hyq9 => (intro w1 hS; go_simp <;> with_reducible rfl)
      try simp only [Act.put, List.getElem_toArray, List.getElem_cons_zero, List.getElem_cons_succ, List.setIfInBounds_toArray, List.set_cons_zero, List.set_cons_succ]
      refine Tail.take (i := 9) (v := ?vq10) rfl (by kernel_rfl) (by kernel_rfl) (by kernel_rfl) (by kernel_rfl) (by kernel_rfl) (fun _ _ _ h => h) (Or.inl ⟨by rfl, ?hyq10⟩) (by assumption) ?restq10
      case hyq10 => (intro w1 hS; go_simp <;> with_reducible rfl)
      try simp only [Act.put, List.getElem_toArray, List.getElem_cons_zero, List.getElem_cons_succ, List.setIfInBounds_toArray, List.set_cons_zero, List.set_cons_succ]
      refine Tail.take (i := 10) (v := ?vq11) rfl (by kernel_rfl) (by kernel_rfl) (by kernel_rfl) (by kernel_rfl) (by kernel_rfl) (fun _ _ _ h => h) (Or.inl ⟨by rfl, ?hyq11⟩) (by assumption) ?restq11
      case hyq11 => (intro w1 hS; go_simp <;> with_reducible rfl)
      try simp only [Act.put, List.getElem_toArray, List.getElem_cons_zero, List.getElem_cons_succ, List.setIfInBounds_toArray, List.set_cons_zero, List.set_cons_succ]
      refine Tail.take (i := 11) (v := ?vq12) rfl (by kernel_rfl) (by kernel_rfl) (by kernel_rfl) (by kernel_rfl) (by kernel_rfl) (fun _ _ _ h => h) (Or.inl ⟨by rfl, ?hyq12⟩) (by assumption) ?restq12
      case hyq12 => (intro w1 hS; have k := hS.1.cell (i := 4) (u := .int .i32 (ix : Int)) (by rw [← HV.out.2.2.1]; rfl); go_simp <;> with_reducible rfl)
      try simp only [Act.put, List.getElem_toArray, List.getElem_cons_zero, List.getElem_cons_succ, List.setIfInBounds_toArray, List.set_cons_zero, List.set_cons_succ]
      refine Tail.take (i := 12) (v := ?vq13) rfl (by kernel_rfl) (by kernel_rfl) (by kernel_rfl) (by kernel_rfl) (by kernel_rfl) (fun _ _ _ h => h) (Or.inl ⟨by rfl, ?hyq13⟩) (by assumption) ?restq13
      case hyq13 => (intro w1 hS; go_simp <;> with_reducible rfl)
      try simp only [Act.put, List.getElem_toArray, List.getElem_cons_zero, List.getElem_cons_succ, List.setIfInBounds_toArray, List.set_cons_zero, List.set_cons_succ]
      refine Tail.ready (rs := [13]) (by kernel_rfl) (by simp) (Tail.AllReadyL.cons rfl (fun K hK => ?_) Tail.AllReadyL.nil)
      go_simp
      refine (SfntB.u16_any g (off + ix) (n - ix) (cp - ix) h1 h2 _ hl4 q1 q2 (HU.out W.drew (by exact HV.out.2.2.2.1)).1 (HU.out W.drew (by exact HV.out.2.2.2.1)).2).mono ?_
      rintro e w1 ⟨rfl, rfl⟩
      refine hK.out _ _ ⟨HV.out.1, HV.out.2.2.2.1⟩ (fun hHeld => ?_)
      clear hK K
      try simp only [Act.put, List.getElem_toArray, List.getElem_cons_zero, List.getElem_cons_succ, List.setIfInBounds_toArray, List.set_cons_zero, List.set_cons_succ]
      refine Tail.ready (rs := [14]) (by kernel_rfl) (by simp) (Tail.AllReadyL.cons rfl (fun K hK => ?_) Tail.AllReadyL.nil)
      go_simp
      refine hK.out _ _ ⟨HV.out.1, HV.out.2.2.2.1⟩ (fun hHeld => ?_)
      clear hK K
      try simp only [Act.put, List.getElem_toArray, List.getElem_cons_zero, List.getElem_cons_succ, List.setIfInBounds_toArray, List.set_cons_zero, List.set_cons_succ]
      refine Tail.ready (rs := [15]) (by kernel_rfl) (by simp) (Tail.AllReadyL.cons rfl (fun K hK => ?_) Tail.AllReadyL.nil)
      go_simp
      refine hK.out _ _ ⟨HV.out.1, HV.out.2.2.2.1⟩ (fun hHeld => ?_)
      clear hK K
      try simp only [Act.put, List.getElem_toArray, List.getElem_cons_zero, List.getElem_cons_succ, List.setIfInBounds_toArray, List.set_cons_zero, List.set_cons_succ]
      refine Tail.ready (rs := [16]) (by kernel_rfl) (by simp) (Tail.AllReadyL.cons rfl (fun K hK => ?_) Tail.AllReadyL.nil)
      go_simp
      refine hK.out _ _ ⟨HV.out.1, HV.out.2.2.2.1⟩ (fun hHeld => ?_)
      clear hK K
      try simp only [Act.put, List.getElem_toArray, List.getElem_cons_zero, List.getElem_cons_succ, List.setIfInBounds_toArray, List.set_cons_zero, List.set_cons_succ]
      refine Tail.ready (rs := [17]) (by kernel_rfl) (by simp) (Tail.AllReadyL.cons rfl (fun K hK => ?_) Tail.AllReadyL.nil)
      go_simp
      refine hK.out _ _ ⟨HV.out.1, HV.out.2.2.2.1⟩ (fun hHeld => ?_)
      clear hK K
      try simp only [Act.put, List.getElem_toArray, List.getElem_cons_zero, List.getElem_cons_succ, List.setIfInBounds_toArray, List.set_cons_zero, List.set_cons_succ]
      refine Tail.ready (rs := [18]) (by kernel_rfl) (by simp) (Tail.AllReadyL.last rfl (by rfl) (fun K hK => ?_) Tail.AllReadyL.nil)
      obtain ⟨X, hX⟩ : ∃ X, X = W.drew.drew := ⟨_, rfl⟩
      have hBX : Blk gb IT (t.cs (.slice (some ⟨g, off, none⟩) n cp) E) X := by rw [hX]; exact HV.out.1
      have hAX : At X g off (vals .u8 bs) := by rw [hX]; exact HV.out.2.2.2.1
      have hgX : w0.grownBy X (some gb) := by rw [hX]; exact gdrew (gdrew HV.out.2.1)
      rw [← hX]
      clear hX
      have hidx := HV.out.2.2.1
      have hN := HV.out.2.2.2.2.2.2.2.2.1
      have hB2 := (hBX.set_ 13 (.int .i16 Y)).set_ 4 (.int .i32 ((ix : Int) + 2))
      have hg2 := gtr hgX (gtr (gset X gb 13 (.int .i16 Y)) (gset _ gb 4 (.int .i32 ((ix : Int) + 2))))
      have hA2 : At ((X.setCell ⟨gb, 13, none⟩ (.int .i16 Y)).setCell ⟨gb, 4, none⟩ (.int .i32 ((ix : Int) + 2))) g off (vals .u8 bs) := at_block (at_block hAX (Below.heap_setCell _ _ _ _ hne)) (Below.heap_setCell _ _ _ _ hne)
      have HN : Hid (N = (ix : Int) + 2) := Lib.hid (by rw [hN]; rfl)
      have H2 := Lib.hid (And.intro hB2 (And.intro hg2 hA2))
      have k4 := hBX.cell (i := 4) (u := .int .i32 (ix : Int)) (by rw [← hidx]; rfl)
      have k13 := hBX.cell (i := 13) rfl
      have k0 := hBX.cell (i := 0) rfl
      have kf := hBX.frozen
      clear hidx hBX hAX hgX hB2 hg2 hA2 hN
      have E1 := HV.out.2.2.2.2.2.2.2.2.2
      go_simp
      refine hK.out _ _ ?_
      clear hK K E1
      try simp only [Act.put, List.getElem_toArray, List.getElem_cons_zero, List.getElem_cons_succ, List.setIfInBounds_toArray, List.set_cons_zero, List.set_cons_succ]
      refine Tail.done (by kernel_rfl) ?_ _
      repeat (first | ((with_reducible refine Gate.seqr 27 ?_); refine q6 w0 gb _ E { t with y := Y, yi := N } _ _ _ (by kernel_rfl) (by exact rfl) (by exact rfl) (by exact rfl) (by rw [HN.out]; exact H2.out.1) (H2.out.2.1)) | go_values | go_skip | go_guarded | go_step | go_upon | go_back)
    · have b32 : (bits BinOp.and IntKind.u8 t.fl 32 == 0) = false := ne_of_bt hp32
      unfold Yd at hy
      rw [hs4, hp32] at hy
      obtain ⟨rfl, hd⟩ := hy
      have HN : Hid (N = t.yi) := Lib.hid (by rw [hN, hidx]; simp)
      have HY : Hid (Y = t.y) := Lib.hid (by omega)
      have H2 := Lib.hid (And.intro hB (And.intro hg hA))
      clear hB hg hidx hA hsb hd hs4 hp32 hn hN
      repeat (first | ((with_reducible refine Gate.seqr 27 ?_); refine q6 w0 gb _ E { t with y := Y, yi := N } _ _ _ (by kernel_rfl) (by exact rfl) (by exact rfl) (by exact rfl) (by rw [HN.out, HY.out]; exact H2.out.1) (H2.out.2.1)) | go_values | go_skip | go_guarded | go_step | go_upon | go_back)
  · have b4 : (bits BinOp.and IntKind.u8 t.fl 4 != 0) = true := hs4
    obtain ⟨b, rfl, ⟨hb0, hb1⟩, hd⟩ : ∃ b, bx = [b] ∧ (0 ≤ b ∧ b ≤ 255) ∧ Y - t.y = if bt t.fl 32 then b else -b := by
      unfold Yd at hy
      rw [hs4] at hy
      cases h : bt t.fl 32
      · rw [h] at hy; exact hy
      · rw [h] at hy; exact hy
    obtain ⟨hl, hb⟩ := sub_one hsb
    have cb := byt_cell hA hl
    rw [hb] at cb
    have hln : ix < n := by omega
    have w1 : IntKind.i16.wrap b = b := IntWalk.i16_in _ (by omega)
    cases hp32 : bt t.fl 32
    · have b32 : (bits BinOp.and IntKind.u8 t.fl 32 != 0) = false := hp32
      rw [hp32] at hd
      simp only [if_true, Bool.false_eq_true, if_false] at hd
      have w2 : IntKind.i16.wrap (t.y - b) = Y := by rw [IntWalk.i16_in _ (by omega)]; omega
      have HV := Lib.hid (And.intro hB (And.intro hg (And.intro hidx (And.intro hA (And.intro hn hN)))))
      clear hB hg hidx hA hsb hb hd hs4 hp32 hl hn hN
      go_wp2
      refine Stl.region 18 (by kernel_rfl) (by kernel_rfl) (by kernel_rfl) (fun X hX => ?_)
      have hB := HV.out.1
      have hg := HV.out.2.1
      have hidx := HV.out.2.2.1
      have hA := HV.out.2.2.2.1
      have hN := HV.out.2.2.2.2.2
      have hBX : Blk gb IT (t.cs (.slice (some ⟨g, off, none⟩) n cp) E) X := by rw [← hX]; exact hB
      have hAX : At X g off (vals .u8 bs) := by rw [← hX]; exact hA
      have hgX : w0.grownBy X (some gb) := by rw [← hX]; exact gdrew hg
      have kb : X.cell? ⟨g, off + ix, none⟩ = some (.int .u8 b) := by rw [← hX]; exact cb
      have hB2 := (hBX.set_ 13 (.int .i16 Y)).set_ 4 (.int .i32 ((ix : Int) + 1))
      have hg2 := gtr hgX (gtr (gset X gb 13 (.int .i16 Y)) (gset _ gb 4 (.int .i32 ((ix : Int) + 1))))
      have hA2 : At ((X.setCell ⟨gb, 13, none⟩ (.int .i16 Y)).setCell ⟨gb, 4, none⟩ (.int .i32 ((ix : Int) + 1))) g off (vals .u8 bs) := at_block (at_block hAX (Below.heap_setCell _ _ _ _ hne)) (Below.heap_setCell _ _ _ _ hne)
      have HN : Hid (N = (ix : Int) + 1) := Lib.hid (by rw [hN]; rfl)
      have H2 := Lib.hid (And.intro hB2 (And.intro hg2 hA2))
      have k4 := hBX.cell (i := 4) (u := .int .i32 (ix : Int)) (by rw [← hidx]; rfl)
      have k13 := hBX.cell (i := 13) rfl
      have k0 := hBX.cell (i := 0) rfl
      have kf := hBX.frozen
      clear hX c13 c0 c4 cb cf c15 hB hg hidx hA hBX hAX hgX hB2 hg2 hA2 hN
      simp only [List.take_succ_cons, List.take_zero, List.drop_succ_cons, List.drop_zero]
      repeat (refine Stl.step (fun K hK => ?_); go_simp; refine hK _ ?_; clear hK K)
      refine Stl.nil ?_
      repeat (first | ((with_reducible refine Gate.seqr 27 ?_); refine q6 w0 gb _ E { t with y := Y, yi := N } _ _ _ (by kernel_rfl) (by exact rfl) (by exact rfl) (by exact rfl) (by rw [HN.out]; exact H2.out.1) (H2.out.2.1)) | go_values | go_skip | go_guarded | go_step | go_upon | go_back)
    · have b32 : (bits BinOp.and IntKind.u8 t.fl 32 != 0) = true := hp32
      rw [hp32] at hd
      simp only [if_true, Bool.false_eq_true, if_false] at hd
      have w2 : IntKind.i16.wrap (t.y + b) = Y := by rw [IntWalk.i16_in _ (by omega)]; omega
      have HV := Lib.hid (And.intro hB (And.intro hg (And.intro hidx (And.intro hA (And.intro hn hN)))))
      clear hB hg hidx hA hsb hb hd hs4 hp32 hl hn hN
      go_wp2
      refine Stl.region 18 (by kernel_rfl) (by kernel_rfl) (by kernel_rfl) (fun X hX => ?_)
      have hB := HV.out.1
      have hg := HV.out.2.1
      have hidx := HV.out.2.2.1
      have hA := HV.out.2.2.2.1
      have hN := HV.out.2.2.2.2.2
      have hBX : Blk gb IT (t.cs (.slice (some ⟨g, off, none⟩) n cp) E) X := by rw [← hX]; exact hB
      have hAX : At X g off (vals .u8 bs) := by rw [← hX]; exact hA
      have hgX : w0.grownBy X (some gb) := by rw [← hX]; exact gdrew hg
      have kb : X.cell? ⟨g, off + ix, none⟩ = some (.int .u8 b) := by rw [← hX]; exact cb
      have hB2 := (hBX.set_ 13 (.int .i16 Y)).set_ 4 (.int .i32 ((ix : Int) + 1))
      have hg2 := gtr hgX (gtr (gset X gb 13 (.int .i16 Y)) (gset _ gb 4 (.int .i32 ((ix : Int) + 1))))
      have hA2 : At ((X.setCell ⟨gb, 13, none⟩ (.int .i16 Y)).setCell ⟨gb, 4, none⟩ (.int .i32 ((ix : Int) + 1))) g off (vals .u8 bs) := at_block (at_block hAX (Below.heap_setCell _ _ _ _ hne)) (Below.heap_setCell _ _ _ _ hne)
      have HN : Hid (N = (ix : Int) + 1) := Lib.hid (by rw [hN]; rfl)
      have H2 := Lib.hid (And.intro hB2 (And.intro hg2 hA2))
      have k4 := hBX.cell (i := 4) (u := .int .i32 (ix : Int)) (by rw [← hidx]; rfl)
      have k13 := hBX.cell (i := 13) rfl
      have k0 := hBX.cell (i := 0) rfl
      have kf := hBX.frozen
      clear hX c13 c0 c4 cb cf c15 hB hg hidx hA hBX hAX hgX hB2 hg2 hA2 hN
      simp only [List.take_succ_cons, List.take_zero, List.drop_succ_cons, List.drop_zero]
      repeat (refine Stl.step (fun K hK => ?_); go_simp; refine hK _ ?_; clear hK K)
      refine Stl.nil ?_
      repeat (first | ((with_reducible refine Gate.seqr 27 ?_); refine q6 w0 gb _ E { t with y := Y, yi := N } _ _ _ (by kernel_rfl) (by exact rfl) (by exact rfl) (by exact rfl) (by rw [HN.out]; exact H2.out.1) (H2.out.2.1)) | go_values | go_skip | go_guarded | go_step | go_upon | go_back)
set_option maxHeartbeats 60000000 in
set_option maxRecDepth 20000 in
theorem q4 (w0 : World) (gb g off n cp : Nat) (E : Value) (t : It) (bs : List Int) (U M Y N : Int) (W : World) (a : Act) (c : Code) (hc : c = Gate.dropC 4 body) (hs : a.tmps.size = 258) (hd : a.defers = []) (h0 : a.tmps[0]? = some (.pointer (some ⟨gb, 0, none⟩))) (hB : Blk gb IT (t.cs (.slice (some ⟨g, off, none⟩) n cp) E) W) (hg : w0.grownBy W (some gb)) (hne : g ≠ gb) (hA : At W g off (vals .u8 bs)) (hn : n = bs.length) (hcp : n ≤ cp) (hn2 : n ≤ 100000) (hq : Xnx t bs U M) (hq2 : Hid (Ynx t bs Y N)) : Code.wp Tryd.prog c (bodyPost Tryd.prog Tryd.f39 (PtP gb (.slice (some ⟨g, off, none⟩) n cp) E { t with x := U, xi := M, y := Y, yi := N, on := bt t.fl 1 } w0)) a W := by
  rw [hc]
  conv in (Gate.dropC _ _) => whnf
  obtain ⟨S, he, hS⟩ := open_ hs hd
  have e0 := hS 0 _ h0
  clear h0
  subst he
  clear hs hd hc hS
  rw [e0]
  clear e0
  obtain ⟨ix, bx, hidx, hby, hbd, hy, hsb, hN⟩ := hq
  have hnH := Lib.hid hn
  have cf := hB.frozen
  have c15 := hB.cell (i := 15) rfl
  have c3 : W.cell? ⟨gb, 3, none⟩ = some (.int .i32 (ix : Int)) := hB.cell (i := 3) (by rw [← hidx]; rfl)
  have c12 := hB.cell (i := 12) rfl
  have c0 := hB.cell (i := 0) rfl
  cases hs4 : bt t.fl 2
  · have b4 : (bits BinOp.and IntKind.u8 t.fl 2 != 0) = false := hs4
    cases hp32 : bt t.fl 16
    · have b32 : (bits BinOp.and IntKind.u8 t.fl 16 == 0) = true := eq_of_bt hp32
      unfold Xd at hy
      rw [hs4, hp32] at hy
      obtain rfl : bx = [hi (U - t.x), lo (U - t.x)] := hy
      obtain ⟨hl, hb, hb'⟩ := sub_two hsb
      have q1 := hi_bd (U - t.x)
      have q2 := lo_bd (U - t.x)
      have e1 := word_back hby hbd
      obtain ⟨h1, hh1⟩ : ∃ h, hi (U - t.x) = h := ⟨_, rfl⟩
      obtain ⟨h2, hh2⟩ : ∃ h, lo (U - t.x) = h := ⟨_, rfl⟩
      rw [hh1] at hb q1 e1
      rw [hh2] at hb' q2 e1
      have hl1 : ix ≤ n := by omega
      have hl2 : ix ≤ cp := by omega
      have hl3 : (ix : Int) ≤ (cp : Int) := by omega
      have hl4 : 2 ≤ n - ix := by omega
      have hl5 : (n : Int) - (ix : Int) = ((n - ix : Nat) : Int) := by omega
      have HV := Lib.hid (And.intro hB (And.intro hg (And.intro hidx (And.intro hA (And.intro hn (And.intro hl (And.intro hb (And.intro hb' (And.intro hN e1)))))))))
      have HU : Hid (∀ W' : World, At W' g off (vals .u8 bs) → W'.cell? ⟨g, off + ix, none⟩ = some (.int .u8 h1) ∧ W'.cell? ⟨g, off + ix + 1, none⟩ = some (.int .u8 h2)) := Lib.hid (fun W' h => ⟨by have := byt_cell h (show ix < bs.length by omega); rw [hb] at this; exact this, by have := byt_cell h hl; rw [hb'] at this; rw [Nat.add_assoc]; exact this⟩)
      have hl6 : ¬ cp = ix := by omega
      clear hB hg hidx hA hsb hb hb' hl hs4 hp32 hn hN e1 hh1 hh2 hl5
      go_wp2
      clear c3 c12 c0 c15 cf
      refine Tail.start (S := (fun w' => Blk gb IT (t.cs (.slice (some ⟨g, off, none⟩) n cp) E) w' ∧ At w' g off (vals .u8 bs))) (tl := [18]) (by kernel_rfl) ⟨HV.out.1, HV.out.2.2.2.1⟩ (fun hHeld => ?_)
      refine Tail.take (i := 0) (v := ?vq14) rfl (by kernel_rfl) (by kernel_rfl) (by kernel_rfl) (by kernel_rfl) (by kernel_rfl) (fun _ _ _ h => h) (Or.inl ⟨by rfl, ?hyq14⟩) (by assumption) ?restq14
      case hyq14 => (intro w1 hS; go_simp <;> with_reducible rfl)
      try simp only [Act.put, List.getElem_toArray, List.getElem_cons_zero, List.getElem_cons_succ, List.setIfInBounds_toArray, List.set_cons_zero, List.set_cons_succ]
      refine Tail.take (i := 1) (v := ?vq15) rfl (by kernel_rfl) (by kernel_rfl) (by kernel_rfl) (by kernel_rfl) (by kernel_rfl) (fun _ _ _ h => h) (Or.inl ⟨by rfl, ?hyq15⟩) (by assumption) ?restq15
      case hyq15 => (intro w1 hS; go_simp <;> with_reducible rfl)
      try simp only [Act.put, List.getElem_toArray, List.getElem_cons_zero, List.getElem_cons_succ, List.setIfInBounds_toArray, List.set_cons_zero, List.set_cons_succ]
      refine Tail.take (i := 2) (v := ?vq16) rfl (by kernel_rfl) (by kernel_rfl) (by kernel_rfl) (by kernel_rfl) (by kernel_rfl) (fun _ _ _ h => h) (Or.inl ⟨by rfl, ?hyq16⟩) (by assumption) ?restq16
      case hyq16 => (intro w1 hS; go_simp <;> with_reducible rfl)
      try simp only [Act.put, List.getElem_toArray, List.getElem_cons_zero, List.getElem_cons_succ, List.setIfInBounds_toArray, List.set_cons_zero, List.set_cons_succ]
      refine Tail.take (i := 3) (v := ?vq17) rfl (by kernel_rfl) (by kernel_rfl) (by kernel_rfl) (by kernel_rfl) (by kernel_rfl) (fun _ _ _ h => h) (Or.inl ⟨by rfl, ?hyq17⟩) (by assumption) ?restq17
      case hyq17 => (intro w1 hS; have k := hS.1.cell (i := 12) rfl; go_simp <;> with_reducible rfl)
      try simp only [Act.put, List.getElem_toArray, List.getElem_cons_zero, List.getElem_cons_succ, List.setIfInBounds_toArray, List.set_cons_zero, List.set_cons_succ]
      refine Tail.take (i := 4) (v := ?vq18) rfl (by kernel_rfl) (by kernel_rfl) (by kernel_rfl) (by kernel_rfl) (by kernel_rfl) (fun _ _ _ h => h) (Or.inl ⟨by rfl, ?hyq18⟩) (by assumption) ?restq18
      case hyq18 => (intro w1 hS; go_simp <;> with_reducible rfl)
      try simp only [Act.put, List.getElem_toArray, List.getElem_cons_zero, List.getElem_cons_succ, List.setIfInBounds_toArray, List.set_cons_zero, List.set_cons_succ]
      refine Tail.take (i := 5) (v := ?vq19) rfl (by kernel_rfl) (by kernel_rfl) (by kernel_rfl) (by kernel_rfl) (by kernel_rfl) (fun _ _ _ h => h) (Or.inl ⟨by rfl, ?hyq19⟩) (by assumption) ?restq19
      case hyq19 => (intro w1 hS; go_simp <;> with_reducible rfl)
      try simp only [Act.put, List.getElem_toArray, List.getElem_cons_zero, List.getElem_cons_succ, List.setIfInBounds_toArray, List.set_cons_zero, List.set_cons_succ]
      refine Tail.take (i := 6) (v := ?vq20) rfl (by kernel_rfl) (by kernel_rfl) (by kernel_rfl) (by kernel_rfl) (by kernel_rfl) (fun _ _ _ h => h) (Or.inl ⟨by rfl, ?hyq20⟩) (by assumption) ?restq20
      case hyq20 => (intro w1 hS; go_simp <;> with_reducible rfl)
      try simp only [Act.put, List.getElem_toArray, List.getElem_cons_zero, List.getElem_cons_succ, List.setIfInBounds_toArray, List.set_cons_zero, List.set_cons_succ]
      refine Tail.take (i := 7) (v := ?vq21) rfl (by kernel_rfl) (by kernel_rfl) (by kernel_rfl) (by kernel_rfl) (by kernel_rfl) (fun _ _ _ h => h) (Or.inl ⟨by rfl, ?hyq21⟩) (by assumption) ?restq21
      case hyq21 => (intro w1 hS; have k := hS.1.cell (i := 0) rfl; go_simp <;> with_reducible rfl)
      try simp only [Act.put, List.getElem_toArray, List.getElem_cons_zero, List.getElem_cons_succ, List.setIfInBounds_toArray, List.set_cons_zero, List.set_cons_succ]
      refine Tail.take (i := 8) (v := ?vq22) rfl (by kernel_rfl) (by kernel_rfl) (by kernel_rfl) (by kernel_rfl) (by kernel_rfl) (fun _ _ _ h => h) (Or.inl ⟨by rfl, ?hyq22⟩) (by assumption) ?restq22
      case hyq22 => (intro w1 hS; go_simp <;> with_reducible rfl)
      try simp only [Act.put, List.getElem_toArray, List.getElem_cons_zero, List.getElem_cons_succ, List.setIfInBounds_toArray, List.set_cons_zero, List.set_cons_succ]
      refine Tail.take (i := 9) (v := ?vq23) rfl (by kernel_rfl) (by kernel_rfl) (by kernel_rfl) (by kernel_rfl) (by kernel_rfl) (fun _ _ _ h => h) (Or.inl ⟨by rfl, ?hyq23⟩) (by assumption) ?restq23
      case hyq23 => (intro w1 hS; go_simp <;> with_reducible rfl)
      try simp only [Act.put, List.getElem_toArray, List.getElem_cons_zero, List.getElem_cons_succ, List.setIfInBounds_toArray, List.set_cons_zero, List.set_cons_succ]
      refine Tail.take (i := 10) (v := ?vq24) rfl (by kernel_rfl) (by kernel_rfl) (by kernel_rfl) (by kernel_rfl) (by kernel_rfl) (fun _ _ _ h => h) (Or.inl ⟨by rfl, ?hyq24⟩) (by assumption) ?restq24
      case hyq24 => (intro w1 hS; go_simp <;> with_reducible rfl)
      try simp only [Act.put, List.getElem_toArray, List.getElem_cons_zero, List.getElem_cons_succ, List.setIfInBounds_toArray, List.set_cons_zero, List.set_cons_succ]
      refine Tail.take (i := 11) (v := ?vq25) rfl (by kernel_rfl) (by kernel_rfl) (by kernel_rfl) (by kernel_rfl) (by kernel_rfl) (fun _ _ _ h => h) (Or.inl ⟨by rfl, ?hyq25⟩) (by assumption) ?restq25
      case hyq25 => (intro w1 hS; have k := hS.1.cell (i := 3) (u := .int .i32 (ix : Int)) (by rw [← HV.out.2.2.1]; rfl); go_simp <;> with_reducible rfl)
      try simp only [Act.put, List.getElem_toArray, List.getElem_cons_zero, List.getElem_cons_succ, List.setIfInBounds_toArray, List.set_cons_zero, List.set_cons_succ]
      refine Tail.take (i := 12) (v := ?vq26) rfl (by kernel_rfl) (by kernel_rfl) (by kernel_rfl) (by kernel_rfl) (by kernel_rfl) (fun _ _ _ h => h) (Or.inl ⟨by rfl, ?hyq26⟩) (by assumption) ?restq26
      case hyq26 => (intro w1 hS; go_simp <;> with_reducible rfl)
      try simp only [Act.put, List.getElem_toArray, List.getElem_cons_zero, List.getElem_cons_succ, List.setIfInBounds_toArray, List.set_cons_zero, List.set_cons_succ]
      refine Tail.ready (rs := [13]) (by kernel_rfl) (by simp) (Tail.AllReadyL.cons rfl (fun K hK => ?_) Tail.AllReadyL.nil)
      go_simp
      refine (SfntB.u16_any g (off + ix) (n - ix) (cp - ix) h1 h2 _ hl4 q1 q2 (HU.out W.drew (by exact HV.out.2.2.2.1)).1 (HU.out W.drew (by exact HV.out.2.2.2.1)).2).mono ?_
      rintro e w1 ⟨rfl, rfl⟩
      refine hK.out _ _ ⟨HV.out.1, HV.out.2.2.2.1⟩ (fun hHeld => ?_)
      clear hK K
      try simp only [Act.put, List.getElem_toArray, List.getElem_cons_zero, List.getElem_cons_succ, List.setIfInBounds_toArray, List.set_cons_zero, List.set_cons_succ]
      refine Tail.ready (rs := [14]) (by kernel_rfl) (by simp) (Tail.AllReadyL.cons rfl (fun K hK => ?_) Tail.AllReadyL.nil)
      go_simp
      refine hK.out _ _ ⟨HV.out.1, HV.out.2.2.2.1⟩ (fun hHeld => ?_)
      clear hK K
      try simp only [Act.put, List.getElem_toArray, List.getElem_cons_zero, List.getElem_cons_succ, List.setIfInBounds_toArray, List.set_cons_zero, List.set_cons_succ]
      refine Tail.ready (rs := [15]) (by kernel_rfl) (by simp) (Tail.AllReadyL.cons rfl (fun K hK => ?_) Tail.AllReadyL.nil)
      go_simp
      refine hK.out _ _ ⟨HV.out.1, HV.out.2.2.2.1⟩ (fun hHeld => ?_)
      clear hK K
      try simp only [Act.put, List.getElem_toArray, List.getElem_cons_zero, List.getElem_cons_succ, List.setIfInBounds_toArray, List.set_cons_zero, List.set_cons_succ]
      refine Tail.ready (rs := [16]) (by kernel_rfl) (by simp) (Tail.AllReadyL.cons rfl (fun K hK => ?_) Tail.AllReadyL.nil)
      go_simp
      refine hK.out _ _ ⟨HV.out.1, HV.out.2.2.2.1⟩ (fun hHeld => ?_)
      clear hK K
      try simp only [Act.put, List.getElem_toArray, List.getElem_cons_zero, List.getElem_cons_succ, List.setIfInBounds_toArray, List.set_cons_zero, List.set_cons_succ]
      refine Tail.ready (rs := [17]) (by kernel_rfl) (by simp) (Tail.AllReadyL.cons rfl (fun K hK => ?_) Tail.AllReadyL.nil)
      go_simp
      refine hK.out _ _ ⟨HV.out.1, HV.out.2.2.2.1⟩ (fun hHeld => ?_)
      clear hK K
      try simp only [Act.put, List.getElem_toArray, List.getElem_cons_zero, List.getElem_cons_succ, List.setIfInBounds_toArray, List.set_cons_zero, List.set_cons_succ]
      refine Tail.ready (rs := [18]) (by kernel_rfl) (by simp) (Tail.AllReadyL.last rfl (by rfl) (fun K hK => ?_) Tail.AllReadyL.nil)
      obtain ⟨X, hX⟩ : ∃ X, X = W.drew.drew := ⟨_, rfl⟩
      have hBX : Blk gb IT (t.cs (.slice (some ⟨g, off, none⟩) n cp) E) X := by rw [hX]; exact HV.out.1
      have hAX : At X g off (vals .u8 bs) := by rw [hX]; exact HV.out.2.2.2.1
      have hgX : w0.grownBy X (some gb) := by rw [hX]; exact gdrew (gdrew HV.out.2.1)
      rw [← hX]
      clear hX
      have hidx := HV.out.2.2.1
      have hN := HV.out.2.2.2.2.2.2.2.2.1
      have hB2 := (hBX.set_ 12 (.int .i16 U)).set_ 3 (.int .i32 ((ix : Int) + 2))
      have hg2 := gtr hgX (gtr (gset X gb 12 (.int .i16 U)) (gset _ gb 3 (.int .i32 ((ix : Int) + 2))))
      have hA2 : At ((X.setCell ⟨gb, 12, none⟩ (.int .i16 U)).setCell ⟨gb, 3, none⟩ (.int .i32 ((ix : Int) + 2))) g off (vals .u8 bs) := at_block (at_block hAX (Below.heap_setCell _ _ _ _ hne)) (Below.heap_setCell _ _ _ _ hne)
      have HN : Hid (M = (ix : Int) + 2) := Lib.hid (by rw [hN]; rfl)
      have H2 := Lib.hid (And.intro hB2 (And.intro hg2 hA2))
      have k3 := hBX.cell (i := 3) (u := .int .i32 (ix : Int)) (by rw [← hidx]; rfl)
      have k12 := hBX.cell (i := 12) rfl
      have k0 := hBX.cell (i := 0) rfl
      have kf := hBX.frozen
      clear hidx hBX hAX hgX hB2 hg2 hA2 hN
      have E1 := HV.out.2.2.2.2.2.2.2.2.2
      go_simp
      refine hK.out _ _ ?_
      clear hK K E1
      try simp only [Act.put, List.getElem_toArray, List.getElem_cons_zero, List.getElem_cons_succ, List.setIfInBounds_toArray, List.set_cons_zero, List.set_cons_succ]
      refine Tail.done (by kernel_rfl) ?_ _
      repeat (first | ((with_reducible refine Gate.seqr2 19 ?_); refine q5 w0 gb g off n cp E { t with x := U, xi := M } bs Y N _ _ _ (by kernel_rfl) (by exact rfl) (by exact rfl) (by exact rfl) (by rw [HN.out]; exact H2.out.1) (H2.out.2.1) hne (H2.out.2.2) hnH.out hcp hn2 hq2.out) | go_values | go_skip | go_guarded | go_step | go_upon | go_back)
    · have b32 : (bits BinOp.and IntKind.u8 t.fl 16 == 0) = false := ne_of_bt hp32
      unfold Xd at hy
      rw [hs4, hp32] at hy
      obtain ⟨rfl, hd⟩ := hy
      have HN : Hid (M = t.xi) := Lib.hid (by rw [hN, hidx]; simp)
      have HY : Hid (U = t.x) := Lib.hid (by omega)
      have H2 := Lib.hid (And.intro hB (And.intro hg hA))
      clear hB hg hidx hA hsb hd hs4 hp32 hn hN
      repeat (first | ((with_reducible refine Gate.seqr2 19 ?_); refine q5 w0 gb g off n cp E { t with x := U, xi := M } bs Y N _ _ _ (by kernel_rfl) (by exact rfl) (by exact rfl) (by exact rfl) (by rw [HN.out, HY.out]; exact H2.out.1) (H2.out.2.1) hne (H2.out.2.2) hnH.out hcp hn2 hq2.out) | go_values | go_skip | go_guarded | go_step | go_upon | go_back)
  · have b4 : (bits BinOp.and IntKind.u8 t.fl 2 != 0) = true := hs4
    obtain ⟨b, rfl, ⟨hb0, hb1⟩, hd⟩ : ∃ b, bx = [b] ∧ (0 ≤ b ∧ b ≤ 255) ∧ U - t.x = if bt t.fl 16 then b else -b := by
      unfold Xd at hy
      rw [hs4] at hy
      cases h : bt t.fl 16
      · rw [h] at hy; exact hy
      · rw [h] at hy; exact hy
    obtain ⟨hl, hb⟩ := sub_one hsb
    have cb := byt_cell hA hl
    rw [hb] at cb
    have hln : ix < n := by omega
    have w1 : IntKind.i16.wrap b = b := IntWalk.i16_in _ (by omega)
    cases hp32 : bt t.fl 16
    · have b32 : (bits BinOp.and IntKind.u8 t.fl 16 != 0) = false := hp32
      rw [hp32] at hd
      simp only [if_true, Bool.false_eq_true, if_false] at hd
      have w2 : IntKind.i16.wrap (t.x - b) = U := by rw [IntWalk.i16_in _ (by omega)]; omega
      have HV := Lib.hid (And.intro hB (And.intro hg (And.intro hidx (And.intro hA (And.intro hn hN)))))
      clear hB hg hidx hA hsb hb hd hs4 hp32 hl hn hN
      go_wp2
      refine Stl.region 18 (by kernel_rfl) (by kernel_rfl) (by kernel_rfl) (fun X hX => ?_)
      have hB := HV.out.1
      have hg := HV.out.2.1
      have hidx := HV.out.2.2.1
      have hA := HV.out.2.2.2.1
      have hN := HV.out.2.2.2.2.2
      have hBX : Blk gb IT (t.cs (.slice (some ⟨g, off, none⟩) n cp) E) X := by rw [← hX]; exact hB
      have hAX : At X g off (vals .u8 bs) := by rw [← hX]; exact hA
      have hgX : w0.grownBy X (some gb) := by rw [← hX]; exact gdrew hg
      have kb : X.cell? ⟨g, off + ix, none⟩ = some (.int .u8 b) := by rw [← hX]; exact cb
      have hB2 := (hBX.set_ 12 (.int .i16 U)).set_ 3 (.int .i32 ((ix : Int) + 1))
      have hg2 := gtr hgX (gtr (gset X gb 12 (.int .i16 U)) (gset _ gb 3 (.int .i32 ((ix : Int) + 1))))
      have hA2 : At ((X.setCell ⟨gb, 12, none⟩ (.int .i16 U)).setCell ⟨gb, 3, none⟩ (.int .i32 ((ix : Int) + 1))) g off (vals .u8 bs) := at_block (at_block hAX (Below.heap_setCell _ _ _ _ hne)) (Below.heap_setCell _ _ _ _ hne)
      have HN : Hid (M = (ix : Int) + 1) := Lib.hid (by rw [hN]; rfl)
      have H2 := Lib.hid (And.intro hB2 (And.intro hg2 hA2))
      have k3 := hBX.cell (i := 3) (u := .int .i32 (ix : Int)) (by rw [← hidx]; rfl)
      have k12 := hBX.cell (i := 12) rfl
      have k0 := hBX.cell (i := 0) rfl
      have kf := hBX.frozen
      clear hX c12 c0 c3 cb cf c15 hB hg hidx hA hBX hAX hgX hB2 hg2 hA2 hN
      simp only [List.take_succ_cons, List.take_zero, List.drop_succ_cons, List.drop_zero]
      repeat (refine Stl.step (fun K hK => ?_); go_simp; refine hK _ ?_; clear hK K)
      refine Stl.nil ?_
      repeat (first | ((with_reducible refine Gate.seqr2 19 ?_); refine q5 w0 gb g off n cp E { t with x := U, xi := M } bs Y N _ _ _ (by kernel_rfl) (by exact rfl) (by exact rfl) (by exact rfl) (by rw [HN.out]; exact H2.out.1) (H2.out.2.1) hne (H2.out.2.2) hnH.out hcp hn2 hq2.out) | go_values | go_skip | go_guarded | go_step | go_upon | go_back)
    · have b32 : (bits BinOp.and IntKind.u8 t.fl 16 != 0) = true := hp32
      rw [hp32] at hd
      simp only [if_true, Bool.false_eq_true, if_false] at hd
      have w2 : IntKind.i16.wrap (t.x + b) = U := by rw [IntWalk.i16_in _ (by omega)]; omega
      have HV := Lib.hid (And.intro hB (And.intro hg (And.intro hidx (And.intro hA (And.intro hn hN)))))
      clear hB hg hidx hA hsb hb hd hs4 hp32 hl hn hN
      go_wp2
      refine Stl.region 18 (by kernel_rfl) (by kernel_rfl) (by kernel_rfl) (fun X hX => ?_)
      have hB := HV.out.1
      have hg := HV.out.2.1
      have hidx := HV.out.2.2.1
      have hA := HV.out.2.2.2.1
      have hN := HV.out.2.2.2.2.2
      have hBX : Blk gb IT (t.cs (.slice (some ⟨g, off, none⟩) n cp) E) X := by rw [← hX]; exact hB
      have hAX : At X g off (vals .u8 bs) := by rw [← hX]; exact hA
      have hgX : w0.grownBy X (some gb) := by rw [← hX]; exact gdrew hg
      have kb : X.cell? ⟨g, off + ix, none⟩ = some (.int .u8 b) := by rw [← hX]; exact cb
      have hB2 := (hBX.set_ 12 (.int .i16 U)).set_ 3 (.int .i32 ((ix : Int) + 1))
      have hg2 := gtr hgX (gtr (gset X gb 12 (.int .i16 U)) (gset _ gb 3 (.int .i32 ((ix : Int) + 1))))
      have hA2 : At ((X.setCell ⟨gb, 12, none⟩ (.int .i16 U)).setCell ⟨gb, 3, none⟩ (.int .i32 ((ix : Int) + 1))) g off (vals .u8 bs) := at_block (at_block hAX (Below.heap_setCell _ _ _ _ hne)) (Below.heap_setCell _ _ _ _ hne)
      have HN : Hid (M = (ix : Int) + 1) := Lib.hid (by rw [hN]; rfl)
      have H2 := Lib.hid (And.intro hB2 (And.intro hg2 hA2))
      have k3 := hBX.cell (i := 3) (u := .int .i32 (ix : Int)) (by rw [← hidx]; rfl)
      have k12 := hBX.cell (i := 12) rfl
      have k0 := hBX.cell (i := 0) rfl
      have kf := hBX.frozen
      clear hX c12 c0 c3 cb cf c15 hB hg hidx hA hBX hAX hgX hB2 hg2 hA2 hN
      simp only [List.take_succ_cons, List.take_zero, List.drop_succ_cons, List.drop_zero]
      repeat (refine Stl.step (fun K hK => ?_); go_simp; refine hK _ ?_; clear hK K)
      refine Stl.nil ?_
      repeat (first | ((with_reducible refine Gate.seqr2 19 ?_); refine q5 w0 gb g off n cp E { t with x := U, xi := M } bs Y N _ _ _ (by kernel_rfl) (by exact rfl) (by exact rfl) (by exact rfl) (by rw [HN.out]; exact H2.out.1) (H2.out.2.1) hne (H2.out.2.2) hnH.out hcp hn2 hq2.out) | go_values | go_skip | go_guarded | go_step | go_upon | go_back)
end Go.Proofs.YtdeaodgcdacleaaDoor.ItC
