/- Contract of the reading of a table of letters, of whatever format. -/
import Derived.Test.YthcdolgmifkfdaaDoorCmpR
namespace Go.Proofs.YthcdolgmifkfdaaDoor.CmpS
open Go.ChangeShapes Go.WideShapes Go.ChangeAt Go.RowKit
open Lst Mem RowG SpecB GlyM CadL FourB View VewZ CmpL CmpC CmpM CmpN CmpO CmpQ CmpR
set_option linter.unusedSimpArgs false
set_option linter.unusedVariables false
/-- a function that answers f r for each r asked -/
def Clo (fb : Nat) (Q : Int → Prop) (f : Int → Int) (V : Value) (w : World) : Prop :=
  ∃ (fid : FuncId) (caps : Array Value), V = .func (.func fid) #[] caps ∧ (∀ args w, (callFunc fid args).run Tryd.prog w = .ok (.enter fid args) w) ∧
    ∀ r W, Q r → Below w.heap.size w W → Calls Tryd.prog fid (#[.pointer (some ⟨fb, 0, none⟩), .pointer none, .int .i32 r] ++ caps) W (Ans (f r) W)
def MkP (fb : Nat) (Q : Int → Prop) (f : Int → Int) (w : World) (e : Ending) (w' : World) : Prop :=
  ∃ buf V, e = .returned (.tuple #[buf, V, .nilIface]) ∧ Clo fb Q f V w' ∧ Below w.heap.size w w'
/-- a table of letters, and what it says of the letters asked -/
inductive Tab (Q : Int → Prop) (f : Int → Int) : Int → List Int → Prop
  | t0 (hs bs : List Int) (h6 : hs.length = 6) (hl : bs.length = 256) (hb : ∀ x ∈ bs, 0 ≤ x ∧ x ≤ 255) (hf : ∀ r, Q r → (0 ≤ r ∧ r ≤ 1114111) ∧ f r = if r < 128 then bs.getD r.toNat 0 else 0) : Tab Q f 0 (hs ++ bs)
  | t6 (f0 : Int) (es : List Int) (h0 : 0 ≤ f0 ∧ f0 ≤ 65535) (hl : es.length ≤ 100) (hb : ∀ x ∈ es, 0 ≤ x ∧ x ≤ 65535) (hf : ∀ r, Q r → (0 ≤ r ∧ r ≤ 65535) ∧ f r = if r < f0 then 0 else es.getD (r - f0).toNat 0) : Tab Q f 6 (words (L6 f0 es))
  | t12 (ps : List Pr) (h40 : ps.length ≤ 40) (hps : ∀ p ∈ ps, (0 ≤ p.1 ∧ p.1 ≤ 1114111) ∧ (1 ≤ p.2 ∧ p.2 ≤ 9)) (hasc : ps.Pairwise (fun p q => p.1 < q.1)) (hf : ∀ r, Q r → (0 ≤ r ∧ r ≤ 1114111) ∧ f r = CmpL.look ps r) : Tab Q f 12 (tab12 ps)
  | t4 (hd : List Int) (SG : List Sg4) (gl : List Int) (h7 : hd.length = 7) (hd3 : hd.getD 3 0 = 2 * (SG.length : Int)) (hl : SG.length ≤ 100) (hgl : gl.length ≤ 1000) (hgb : ∀ x ∈ gl, 0 ≤ x ∧ x ≤ 65535) (hok : Ok4 SG) (hf : ∀ r, Q r → (0 ≤ r ∧ r ≤ 1114111) ∧ if r ≤ 65535 then Sem4 SG gl r (f r) else f r = 0) : Tab Q f 4 (words (L4 hd SG gl))
theorem Tab.fm {Q : Int → Prop} {f : Int → Int} {fm : Int} {T : List Int} (h : Tab Q f fm T) : fm = 0 ∨ fm = 4 ∨ fm = 6 ∨ fm = 12 := by cases h <;> simp
theorem below_at {w W : World} {g o : Nat} {xs : List Value} (h : At w g o xs) (hb : Below w.heap.size w W) : At W g o xs := fun j u hu => (hb.cell (p := ⟨g, o + j, none⟩) (World.block_lt_of_cell? w _ (h j u hu))).trans (h j u hu)
theorem below_cell {w W : World} {a : Addr} {v : Value} (h : w.cell? a = some v) (hb : Below w.heap.size w W) : W.cell? a = some v := (hb.cell (World.block_lt_of_cell? w _ h)).trans h
theorem asc0 {fid : FuncId} (h : ∀ args w, (callFunc fid args).run Tryd.prog w = .ok (.enter fid args) w) : ∀ args w, (callFunc fid args).run Tryd.prog w = .ok (.enter fid args) w := h
theorem words_app (a b : List Int) : words (a ++ b) = words a ++ words b := by simp [words]
/-- function of each format -/
def Mf (fm : Int) : FuncId := if fm = 0 then 20 else if fm = 4 then 21 else if fm = 6 then 22 else 23
set_option maxHeartbeats 4000000 in
theorem mk_any (fb g n c off len : Nat) (Q : Int → Prop) (f : Int → Int) (fm : Int) (T : List Int) (w : World) (hT : Tab Q f fm T) (hF : Fc fb g n c w) (hA : At w g off (vals .u8 T)) (hl : len = T.length) (hn : n = off + len) (hnc : n ≤ c) (ho : off ≤ 100) :
    Calls Tryd.prog (Mf fm) #[.pointer (some ⟨fb, 0, none⟩), .slice none 0 0, .int .u32 (off : Int), .int .u32 (len : Int)] w (MkP fb Q f w) := by
  cases hT with
  | t0 hs bs h6 hbl hb hf =>
    have e : len = 262 := by rw [hl, List.length_append, h6, hbl]
    subst e
    refine (mk0 fb g n c off hs bs w hF hA h6 hbl hn hnc ho).mono ?_
    rintro e w' ⟨buf, tb, rfl, h1, hb'⟩
    refine ⟨_, _, rfl, ⟨_, _, rfl, fun _ _ => rfl, fun r W hr hbW => ?_⟩, hb'⟩
    obtain ⟨h2, h3⟩ := hf r hr
    rw [h3]
    exact cl0 fb tb bs r W h2 hbl hb (below_at h1 hbW)
  | t6 f0 es h0 hel hb hf =>
    have hw : (words (L6 f0 es)).length = 10 + 2 * es.length := by rw [words_len, L6_len]; omega
    have hlb : len ≤ 60000 := by omega
    refine (mk6 fb g n c off len es.length f0 es w hF hA rfl (by omega) hnc ho hlb hel h0 hb).mono ?_
    rintro e w' ⟨buf, cb, eb, A, c', rfl, h1, h2, h3, hb'⟩
    refine ⟨_, _, rfl, ⟨_, _, rfl, fun _ _ => rfl, fun r W hr hbW => ?_⟩, hb'⟩
    obtain ⟨h4, h5⟩ := hf r hr
    rw [h5]
    exact cl6 fb cb eb es.length c' A f0 r es W h4 h0 rfl (by omega) (below_cell h1 hbW) (below_cell h2 hbW) (fun hp => by obtain ⟨g', a, b⟩ := h3 hp; exact ⟨g', a, below_at b hbW⟩)
  | t12 ps h40 hps hasc hf =>
    have hw := tab12_len ps
    refine (mk12 fb g n c off len ps w hF hA (by omega) hnc ho (by omega) h40 hps).mono ?_
    rintro e w' ⟨buf, eb, A, c', rfl, h1, h2, hb'⟩
    refine ⟨_, _, rfl, ⟨_, _, rfl, fun _ _ => rfl, fun r W hr hbW => ?_⟩, hb'⟩
    obtain ⟨h4, h5⟩ := hf r hr
    rw [h5]
    exact cl12 fb eb ps.length c' A r ps W h4 rfl h40 hps hasc (below_cell h1 hbW) (fun hp => by obtain ⟨g', a, b⟩ := h2 hp; exact ⟨g', a, below_at b hbW⟩)
  | t4 hd SG gl h7 hd3 hsl hgl hgb hok hf =>
    have hw : (words (L4 hd SG gl)).length = 16 + 8 * SG.length + 2 * gl.length := by rw [words_len, L4_len h7]; omega
    have hg : At w g (off + 16 + 8 * SG.length) (vals .u8 (words gl)) := by
      have e : words (L4 hd SG gl) = words (hd ++ (SG.map (·.1) ++ ([0] ++ (SG.map (·.2.1) ++ (SG.map (·.2.2.1) ++ SG.map (·.2.2.2)))))) ++ words gl ++ [] := by
        rw [List.append_nil, ← words_app]
        simp only [L4, List.append_assoc]
      rw [e] at hA
      have := at_mid hA
      rw [words_len] at this
      simp only [List.length_append, List.length_map, List.length_singleton, h7] at this
      rw [show off + 16 + 8 * SG.length = off + 2 * (7 + (SG.length + (1 + (SG.length + (SG.length + SG.length))))) by omega]
      exact this
    refine (mk4 fb g n c off len SG.length (off + 16 + 8 * SG.length) hd SG gl w hF h7 hd3 hA rfl rfl (by omega) hnc ho (by omega) hsl hgl hok).mono ?_
    rintro e w' ⟨buf, eb, lb, bb, A, c', rfl, h1, h2, h3, h4, hb'⟩
    refine ⟨_, _, rfl, ⟨_, _, rfl, fun _ _ => rfl, fun r W hr hbW => ?_⟩, hb'⟩
    obtain ⟨h5, h6⟩ := hf r hr
    have hwW := hb'.trans (hbW.mono hb'.size)
    exact cl4 fb eb lb bb g n c (off + 16 + 8 * SG.length) SG.length c' A SG gl r (f r) W (hF.below hwW) h5 rfl hsl hok (below_cell h1 hbW) (fun hp => by obtain ⟨g', a, b⟩ := h2 hp; exact ⟨g', a, below_at b hbW⟩) (below_cell h3 hbW) (below_cell h4 hbW) (below_at hg hwW) hgl hgb (by omega) (by omega) hnc (by omega) h6
set_option maxHeartbeats 4000000 in
theorem mgi_any (fb g n c off len : Nat) (Q : Int → Prop) (f : Int → Int) (fm : Int) (T : List Int) (w : World) (hT : Tab Q f fm T) (hF : Fc fb g n c w) (hA : At w g off (vals .u8 T)) (hl : len = T.length) (hn : n = off + len) (hnc : n ≤ c) (ho : off ≤ 100) :
    Calls Tryd.prog 19 #[.pointer (some ⟨fb, 0, none⟩), .slice none 0 0, .int .u32 (off : Int), .int .u32 (len : Int), .int .u16 fm] w (MkP fb Q f w) := by
  have hm := mk_any fb g n c off len Q f fm T w hT hF hA hl hn hnc ho
  rcases hT.fm with rfl | rfl | rfl | rfl
  all_goals
    have HM := Lib.hid hm
    clear hm hT hF hA hl hn hnc
    go_enter Tryd.func19, Tryd.ntmps19
    go_wp2_with fail
    refine HM.out.mono ?_
    rintro e w' ⟨buf, V, rfl, hv, hb⟩
    have HB := Lib.hid (And.intro hv hb)
    clear hv hb
    go_wp2_with fail
    exact bodyPost_ret (v := .tuple #[buf, V, .nilIface]) (by simp [results, Tryd.results19, go_sem]) rfl ⟨buf, V, rfl, HB.out.1, HB.out.2⟩
end Go.Proofs.YthcdolgmifkfdaaDoor.CmpS
