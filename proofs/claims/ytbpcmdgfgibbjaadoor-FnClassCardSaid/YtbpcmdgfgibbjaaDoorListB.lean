/- Contract of the laws' list of glyphs out of numbers: ascending, each once; and append as one step of a region that draws its order. -/
import Derived.Test.YtbpcmdgfgibbjaaDoorSpecB
import Derived.Test.YtbpcmdgfgibbjaaDoorMem
import Derived.Maps.AppendAt
import Derived.Deep.RegionLaw
import Derived.Deep.QuietTactic
import Derived.BigQuiet
import Derived.Outline
namespace Go.Proofs.YtbpcmdgfgibbjaaDoor.ListB
open Go.ChangeShapes Go.WideShapes Go.ChangeAt Go.RowKit
open Lst Mem SpecB

/-- append onto a row of the call's own as one step of a region that draws -/
theorem step_app {P : Program} {ops : Array Oper} {o : Oper} {a : Act} {w : World} {K : Act → World → Prop} {Q : Exit → Act → World → Prop} {E : Prop} (hgd : o.guard = none) (s x : Operand) (t : TypeId)
    (ho : o.op = .call { callee := .builtin .append, args := #[s, x], argTypes := #[t, t] })
    (base : Nat) (e : TypeId) (i : TypeInfo) (z : Value) (bytes : Nat) (ht : P.underlying t = some (.slice e)) (hi : P.info? e = some i) (hz : i.zero = some z)
    (hsize : i.size = 1) (hby : i.bytes = bytes) (hzs : z.cells.size = 1)
    (v : Value) (n : Nat) (xs : List Value) (hs : a.eval s = v) (hown : w.ownsRow base e 1 v n xs)
    (ad : Addr) (m c : Nat) (news : List Value) (hx : a.eval x = .slice (some ad) m c) (hr : Rd w (some ad) m c news) (h1 : ∀ u ∈ news, u.oneCell' = true)
    (h63 : n + m ≤ maxLen) (hbytes : (n + m) * bytes ≤ 140737488355328) (hbase : base ≤ w.heap.size)
    (h : ∀ v' w', w'.ownsRow base e 1 v' (n + m) (xs ++ news) → w.grownBy w' v.ownBlock → (v' = .slice none 0 0 ↔ v = .slice none 0 0 ∧ m = 0) → (v'.ownBlock = v.ownBlock ∨ v'.ownBlock = some w.heap.size) → K (a.put o.dst v') w') :
    if Region.wanted o (yielded ops a.tmps) = true then Oper.wp P o a w K Q else E := by
  have hw : Region.wanted o (yielded ops a.tmps) = true := by simp [Region.wanted, hgd]
  rw [if_pos hw]
  obtain ⟨v', w', hrun, h2, h3, h4, h5⟩ := run_append_own_at (P := P) w base t o.type e i z 1 bytes ht hi hz hsize hby hzs (by decide) v n xs hown ad m c news (by rw [hr.1, Nat.mul_one]) (hr.2.1 ad rfl) h1 h63 hbytes hbase
  unfold Oper.wp execOp
  simp only [ho, resolve, invoke, builtin, Sem.run_bind, Sem.run_pure, Result.andThen_ok, List.map_toArray, List.map_cons, List.map_nil, hs, hx, hrun]
  exact h v' w' h2 h3 h4 h5

theorem own_cut {w : World} {B g n cap : Nat} {e : TypeId} {xs : List Value} (h : w.ownsRow B e 1 (.slice (some ⟨g, 0, none⟩) n cap) n xs) {k : Nat} (hk : k ≤ n) : w.ownsRow B e 1 (.slice (some ⟨g, 0, none⟩) k cap) k (xs.take k) := by
  obtain ⟨hl, h⟩ := h
  refine ⟨by rw [List.length_take, hl]; omega, ?_⟩
  rcases h with ⟨hv, _⟩ | ⟨g', cap', cur, hv, hb, hg, hnc, hcm, hcs, ht⟩
  · cases hv
  · simp only [Value.slice.injEq, Option.some.injEq, Addr.mk.injEq, and_true, true_and] at hv
    obtain ⟨rfl, rfl⟩ := hv
    refine .inr ⟨g, cap, cur, rfl, hb, hg, by omega, hcm, hcs, ?_⟩
    rw [← ht, List.take_take]
    congr 1
    omega
theorem intinfo : (Tryd.prog.info? 3).map (fun i => (i.zero, i.size, i.bytes)) = some (some (.int .i64 0), 1, 8) := by kernel_rfl
theorem one_int (w : World) (x : Int) : At (w.alloc (.cells #[.int .i64 x] 3)) w.heap.size 0 (vals .i64 [x]) := by
  intro j v hj
  match j, hj with
  | 0, hj => simp [vals] at hj; subst hj; simp

theorem one_own (w : World) (x : Int) : (w.alloc (.cells #[.int .i64 x] 3)).ownsRow w.heap.size 3 1 (.slice (some ⟨w.heap.size, 0, none⟩) 1 1) 1 [.int .i64 x] :=
  ⟨by simp, .inr ⟨w.heap.size, 1, #[.int .i64 x], rfl, Nat.le_refl _, heap_alloc_new w _, Nat.le_refl _, by unfold maxLen; omega, by simp, by simp⟩⟩

theorem one_tail (x : Int) (l : List Int) : ∀ u ∈ [Value.int .i64 x] ++ vals .i64 l, u.oneCell' = true := fun u hu => by
  rcases List.mem_append.1 hu with h | h
  · simp at h; subst h; rfl
  · exact vals_one _ _ u h
/-- ascending, each once -/
def Asc (l : List Int) : Prop := ∀ i j, i < j → j < l.length → l.getD i 0 < l.getD j 0
def put (l : List Int) (k : Nat) (x : Int) : List Int := l.take k ++ x :: l.drop k
theorem put_len (l : List Int) (k : Nat) (x : Int) (hk : k ≤ l.length) : (put l k x).length = l.length + 1 := by
  simp [put]; omega
theorem put_at (l : List Int) (k : Nat) (x : Int) (hk : k ≤ l.length) (j : Nat) : (put l k x).getD j 0 = if j < k then l.getD j 0 else if j = k then x else l.getD (j - 1) 0 := by
  unfold put
  simp only [List.getD_eq_getElem?_getD]
  rw [List.getElem?_append, List.length_take, Nat.min_eq_left hk]
  by_cases h1 : j < k
  · rw [if_pos h1, if_pos h1, List.getElem?_take, if_pos h1]
  · rw [if_neg h1, if_neg h1]
    by_cases h2 : j = k
    · subst h2
      simp
    · rw [if_neg h2]
      obtain ⟨d, rfl⟩ : ∃ d, j = k + d + 1 := ⟨j - k - 1, by omega⟩
      rw [show k + d + 1 - k = d + 1 by omega, List.getElem?_cons_succ, List.getElem?_drop, show k + d + 1 - 1 = k + d by omega]
theorem put_asc (l : List Int) (k : Nat) (x : Int) (hk : k ≤ l.length) (ha : Asc l) (h1 : ∀ t, t < k → l.getD t 0 < x) (h2 : k < l.length → x < l.getD k 0) : Asc (put l k x) := by
  intro i j hij hj
  rw [put_len l k x hk] at hj
  rw [put_at l k x hk, put_at l k x hk]
  by_cases hi : i < k
  · rw [if_pos hi]
    by_cases hjk : j < k
    · rw [if_pos hjk]
      exact ha i j hij (by omega)
    · rw [if_neg hjk]
      by_cases he : j = k
      · rw [if_pos he]
        exact h1 i hi
      · rw [if_neg he]
        exact ha i (j - 1) (by omega) (by omega)
  · rw [if_neg hi, if_neg (by omega : ¬ j < k)]
    by_cases he : i = k
    · rw [if_pos he, if_neg (by omega : ¬ j = k)]
      have hkl : k < l.length := by omega
      by_cases h3 : j - 1 = k
      · rw [h3]
        exact h2 hkl
      · have := ha k (j - 1) (by omega) (by omega)
        have := h2 hkl
        omega
    · rw [if_neg he, if_neg (by omega : ¬ j = k)]
      exact ha (i - 1) (j - 1) (by omega) (by omega)
theorem put_mem (l : List Int) (k : Nat) (x y : Int) (h : y ∈ put l k x) : y = x ∨ y ∈ l := by
  unfold put at h
  rcases List.mem_append.1 h with h | h
  · exact .inr (List.mem_of_mem_take h)
  · rcases List.mem_cons.1 h with h | h
    · exact .inl h
    · exact .inr (List.mem_of_mem_drop h)

/-- a slice of ints of the call's own, not nil, ascending, with elements of two bytes -/
def Glyphs (n : Nat) (w : World) (e : Ending) (w' : World) : Prop :=
  ∃ v L, e = .returned v ∧ Asc L ∧ L.length ≤ n ∧ (∀ x ∈ L, 0 ≤ x ∧ x ≤ 65535) ∧ (0 < n → L ≠ []) ∧ w'.ownsRow w.heap.size 3 1 v L.length (vals .i64 L) ∧ v ≠ .slice none 0 0 ∧ Below w.heap.size w w'

set_option maxHeartbeats 3200000 in
set_option maxRecDepth 4000 in
theorem listOf_any (a0 : Option Addr) (n cap0 : Nat) (ls : List Int) (w : World) (hn : n = ls.length) (hsz : n ≤ 100) (hl : ∀ x ∈ ls, 0 ≤ x ∧ x ≤ 65535)
    (hsrc : 0 < n → ∃ b off, a0 = some ⟨b, off, none⟩ ∧ b < w.heap.size ∧ At w b off (vals .u16 ls)) :
    Calls Tryd.prog 5 #[.slice a0 n cap0] w (Glyphs n w) := by
  obtain ⟨j0, hj0, jz0, jz1, jz2⟩ := info_parts intinfo
  have HN := Lib.hid hn
  have HL := Lib.hid hl
  have HS := Lib.hid hsrc
  clear hn hl hsrc
  go_enter Tryd.func5, Tryd.ntmps5
  go_wp2
  go_loopw [3, 10] (fun out i wr => ∃ (k : Nat) (L : List Int), k ≤ n ∧ i = .int .i64 k ∧ Asc L ∧ L.length ≤ k ∧ (∀ x ∈ L, 0 ≤ x ∧ x ≤ 65535) ∧ (0 < k → L ≠ []) ∧ wr.ownsRow w.heap.size 3 1 out L.length (vals .i64 L) ∧ out ≠ .slice none 0 0 ∧ Below w.heap.size w wr) (fun _ i _ => n - (intOf i).toNat)
  case atStart => exact ⟨0, [], Nat.zero_le _, rfl, fun i j _ h => absurd h (by simp), Nat.zero_le _, by simp, by simp, made_row w _, by simp, bel_made w _ _⟩
  case round =>
    obtain ⟨k, L, hk, rfl, hasc, hlk, hLb, hne, hown, hnil, hbel⟩ := hrel
    by_cases hlt : k < n
    · obtain ⟨b0, off0, rfl, hb0, hA0⟩ := HS.out (by omega)
      have hlk' : k < ls.length := by rw [← HN.out]; exact hlt
      obtain ⟨x, hx⟩ : ∃ x, x = ls.getD k 0 := ⟨_, rfl⟩
      have hxb : 0 ≤ x ∧ x ≤ 65535 := by
        rw [hx, List.getD_eq_getElem?_getD, List.getElem?_eq_getElem hlk']
        exact HL.out _ (List.getElem_mem _)
      have hcell : wr.cell? ⟨b0, off0 + k, none⟩ = some (.int .u16 x) := by
        rw [hx]
        exact (hbel.cell (p := ⟨b0, off0 + k, none⟩) hb0).trans (hA0.get hlk')
      obtain ⟨g, cap, rfl, hA, hcap, hg, hg'⟩ := own_open hown hnil
      obtain ⟨m, hm⟩ : ∃ m, m = L.length := ⟨_, rfl⟩
      rw [← hm] at hown hcap hlk ⊢
      have HM := Lib.hid hm
      have HA := Lib.hid hA
      have HO := Lib.hid hown
      have HB := Lib.hid hbel
      have HASC := Lib.hid hasc
      have HLB := Lib.hid hLb
      have w1 : IntKind.i64.wrap x = x := IntWalk.i64_in _ (by omega)
      clear hm hA hown hbel hasc hLb hx hlk' hA0 hne
      have hcellL : ∀ t, t < m → wr.cell? ⟨g, t, none⟩ = some (.int .i64 (L.getD t 0)) := fun t ht => by
        have := HA.out.get (j := t) (by rw [← HM.out]; exact ht)
        rwa [Nat.zero_add] at this
      have HC := Lib.hid hcellL
      clear hcellL
      go_wp2
      go_loopw [6] (fun k2 wr2 => ∃ j : Nat, j ≤ m ∧ k2 = .int .i64 j ∧ (∀ t, t < j → L.getD t 0 < x) ∧ wr = wr2) (fun k2 _ => m - (intOf k2).toNat)
      case atStart => exact ⟨0, Nat.zero_le _, rfl, fun t h => absurd h (by omega), rfl⟩
      case round =>
        obtain ⟨j, hj, rfl, hlo, rfl⟩ := hrel
        have HLO := Lib.hid hlo
        clear hlo
        have hjL : j ≤ L.length := by rw [← HM.out]; exact hj
        have HR1 := Lib.hid (one_own wr.drew x)
        have hdl : (vals .i64 (L.drop j)).length = m - j := by rw [vals_len, List.length_drop, HM.out]
        have hAd : At (wr.drew.alloc (.cells #[.int .i64 x] 3)) g j (vals .i64 (L.drop j)) := by
          have h := HA.out.drop j
          rw [Nat.zero_add, vals, ← List.map_drop] at h
          exact fun t u hu => keep_new (W := wr.drew) (h t u hu)
        have HRd := Lib.hid (show Rd (wr.drew.alloc (.cells #[.int .i64 x] 3)) (some ⟨g, j, none⟩) (m - j) (cap - j) (vals .i64 (L.drop j)) from by
          have h := Rd.of_At (c := cap - j) hAd
          rwa [hdl] at h)
        have HRd0 := Lib.hid (show j = m → Rd (wr.drew.alloc (.cells #[.int .i64 x] 3)) (some ⟨g, 0, none⟩) (m - j) (cap - j) (vals .i64 (L.drop j)) from fun he => by
          rw [List.drop_of_length_le (by rw [← HM.out, he]; exact Nat.le_refl _)]
          exact ⟨by rw [he, Nat.sub_self]; rfl, fun ad e t u hu => by simp [vals] at hu, fun h => by cases h⟩)
        clear hAd hdl hjL
        by_cases hjm : j < m
        · have hc := HC.out j hjm
          obtain ⟨y, hy⟩ : ∃ y, y = L.getD j 0 := ⟨_, rfl⟩
          rw [← hy] at hc
          have HY := Lib.hid hy
          clear hy
          have q1 : decide (j < m) = true := by simp; exact hjm
          by_cases hyx : y < x
          · go_wp2
            go_roundw
            case rel =>
              refine ⟨j + 1, by omega, by go_num, (fun t ht => ?_), by first | rfl | trivial⟩
              by_cases he : t = j
              · rw [he, ← HY.out]; exact hyx
              · exact HLO.out t (by omega)
            case measure => simp [intOf]; omega
          · have hck : ¬ (cap = j) := by omega
            have hjc : j ≤ cap := by omega
            go_wp2
            · rename_i hle hor
              go_region_law (first | (refine step_app rfl (.tmp 47) (.tmp 50) 23 rfl wr.heap.size 3 j0 (.int .i64 0) 8 Tryd.underlying23 hj0 jz0 jz1 jz2 rfl _ 1 [.int .i64 x] (by simp [Act.eval]) HR1.out ⟨g, j, none⟩ (m - j) (cap - j) (vals .i64 (L.drop j)) (by simp [Act.eval]) HRd.out ?_ ?_ ?_ ?_ ?_; (focus exact vals_one _ _); (focus (unfold maxLen; omega)); (focus omega); (focus (simp; done)); intro v6 w6 own6 grow6 nil6 at6; obtain ⟨g6, cap6, rfl, hA6, hcap6, hg6, hg6'⟩ := own_open own6 (fun h => by have h' := (nil6.1 h).1; cases h'); have HR6 := Lib.hid (Rd.of_At (c := cap6) hA6); have HOC := Lib.hid (own_cut (((HO.out.drew).alloc (.cells #[.int .i64 x] 3)).kept grow6 (.inr (by simp [Value.ownBlock]; omega))) (k := j) hj); have HB6 := Lib.hid (((HB.out.drew).alloc (by exact HB.out.size) (.cells #[.int .i64 x] 3)).grown grow6 (by have := HB.out.size; simp; omega) (fun g hg => by simp [Value.ownBlock] at hg; have := HB.out.size; omega)); clear hA6 own6 grow6 nil6 at6) | (refine step_app rfl (.tmp 44) (.tmp 51) 23 rfl w.heap.size 3 j0 (.int .i64 0) 8 Tryd.underlying23 hj0 jz0 jz1 jz2 rfl _ j ((vals .i64 L).take j) (by simp [Act.eval]) HOC.out ⟨g6, 0, none⟩ (1 + (m - j)) cap6 ([.int .i64 x] ++ vals .i64 (L.drop j)) (by simp [Act.eval]) (by have h := HR6.out; rwa [List.length_append, vals_len, List.length_drop, ← HM.out] at h) ?_ ?_ ?_ ?_ ?_; (focus exact one_tail x _); (focus (unfold maxLen; omega)); (focus omega); (focus exact HB6.out.size); intro v9 w9 own9 grow9 nil9 at9))
              have hn9 : v9 ≠ .slice none 0 0 := fun h => by have h' := (nil9.1 h).1; cases h'
              have hb9 : Below w.heap.size w w9 := HB6.out.grown grow9 HB6.out.size (fun g hg => by simp [Value.ownBlock] at hg; omega)
              have ho9 : w9.ownsRow w.heap.size 3 1 v9 (put L j x).length (vals .i64 (put L j x)) := by
                rw [put_len L j x (by rw [← HM.out]; exact hj), ← HM.out]
                rw [show j + (1 + (m - j)) = m + 1 by omega] at own9
                rw [show vals .i64 (put L j x) = (vals .i64 L).take j ++ ([.int .i64 x] ++ vals .i64 (L.drop j)) by simp [put, vals, List.map_take]]
                exact own9
              have HE := Lib.hid (And.intro ho9 (And.intro hn9 hb9))
              clear hn9 hb9 ho9 own9 grow9 nil9 at9
              go_wp2
              go_roundw
              case rel =>
                refine ⟨k + 1, put L j x, by omega, by go_num, put_asc L j x (by rw [← HM.out]; exact hj) HASC.out HLO.out (fun hh => ?_), by rw [put_len L j x (by rw [← HM.out]; exact hj), ← HM.out]; omega, fun y hy => ?_, fun _ => by simp [put], HE.out.1, HE.out.2.1, HE.out.2.2⟩
                · rw [← HY.out]; simp at hor; omega
                · rcases put_mem L j x y hy with h | h
                  · rw [h]; exact hxb
                  · exact HLB.out y h
              case measure => simp [intOf]; omega
            · rename_i hle hand
              have heq : y = x := by simpa using hand.2
              have HE := Lib.hid (And.intro HO.out HB.out)
              go_roundw
              case rel => exact ⟨k + 1, L, by omega, by go_num, HASC.out, by rw [← HM.out]; omega, HLB.out, fun _ h => by rw [h] at HM; have := HM.out; simp at this; omega, by rw [← HM.out]; exact HE.out.1, by simp, HE.out.2⟩
              case measure => simp [intOf]; omega
        · obtain rfl : j = m := by omega
          have q1 : decide (j < j) = false := by simp
          by_cases hck : cap = j
          · have hck' := hck.symm
            clear hck
            subst hck'
            have HRd1 := Lib.hid (HRd0.out rfl)
            clear HRd0
            go_wp2
            go_region_law (first | (refine step_app rfl (.tmp 47) (.tmp 50) 23 rfl wr.heap.size 3 j0 (.int .i64 0) 8 Tryd.underlying23 hj0 jz0 jz1 jz2 rfl _ 1 [.int .i64 x] (by simp [Act.eval]) HR1.out ⟨g, 0, none⟩ (j - j) (j - j) (vals .i64 (L.drop j)) (by simp [Act.eval]) HRd1.out ?_ ?_ ?_ ?_ ?_; (focus exact vals_one _ _); (focus (unfold maxLen; omega)); (focus omega); (focus (simp; done)); intro v6 w6 own6 grow6 nil6 at6; obtain ⟨g6, cap6, rfl, hA6, hcap6, hg6, hg6'⟩ := own_open own6 (fun h => by have h' := (nil6.1 h).1; cases h'); have HR6 := Lib.hid (Rd.of_At (c := cap6) hA6); have HOC := Lib.hid (own_cut (((HO.out.drew).alloc (.cells #[.int .i64 x] 3)).kept grow6 (.inr (by simp [Value.ownBlock]; omega))) (k := j) hj); have HB6 := Lib.hid (((HB.out.drew).alloc (by exact HB.out.size) (.cells #[.int .i64 x] 3)).grown grow6 (by have := HB.out.size; simp; omega) (fun g hg => by simp [Value.ownBlock] at hg; have := HB.out.size; omega)); clear hA6 own6 grow6 nil6 at6) | (refine step_app rfl (.tmp 44) (.tmp 51) 23 rfl w.heap.size 3 j0 (.int .i64 0) 8 Tryd.underlying23 hj0 jz0 jz1 jz2 rfl _ j ((vals .i64 L).take j) (by simp [Act.eval]) HOC.out ⟨g6, 0, none⟩ (1 + (j - j)) cap6 ([.int .i64 x] ++ vals .i64 (L.drop j)) (by simp [Act.eval]) (by have h := HR6.out; rwa [List.length_append, vals_len, List.length_drop, ← HM.out] at h) ?_ ?_ ?_ ?_ ?_; (focus exact one_tail x _); (focus (unfold maxLen; omega)); (focus omega); (focus exact HB6.out.size); intro v9 w9 own9 grow9 nil9 at9))
            have hn9 : v9 ≠ .slice none 0 0 := fun h => by have h' := (nil9.1 h).1; cases h'
            have hb9 : Below w.heap.size w w9 := HB6.out.grown grow9 HB6.out.size (fun g hg => by simp [Value.ownBlock] at hg; omega)
            have ho9 : w9.ownsRow w.heap.size 3 1 v9 (put L j x).length (vals .i64 (put L j x)) := by
              rw [put_len L j x (by rw [← HM.out]; exact hj), ← HM.out]
              rw [show j + (1 + (j - j)) = j + 1 by omega] at own9
              rw [show vals .i64 (put L j x) = (vals .i64 L).take j ++ ([.int .i64 x] ++ vals .i64 (L.drop j)) by simp [put, vals, List.map_take]]
              exact own9
            have HE := Lib.hid (And.intro ho9 (And.intro hn9 hb9))
            clear hn9 hb9 ho9 own9 grow9 nil9 at9
            go_wp2
            go_roundw
            case rel =>
              refine ⟨k + 1, put L j x, by omega, by go_num, put_asc L j x (by rw [← HM.out]; exact hj) HASC.out HLO.out (fun hh => ?_), by rw [put_len L j x (by rw [← HM.out]; exact hj), ← HM.out]; omega, fun y hy => ?_, fun _ => by simp [put], HE.out.1, HE.out.2.1, HE.out.2.2⟩
              · rw [← HM.out] at hh; omega
              · rcases put_mem L j x y hy with h | h
                · rw [h]; exact hxb
                · exact HLB.out y h
            case measure => simp [intOf]; omega
          · skip
            go_wp2
            go_region_law (first | (refine step_app rfl (.tmp 47) (.tmp 50) 23 rfl wr.heap.size 3 j0 (.int .i64 0) 8 Tryd.underlying23 hj0 jz0 jz1 jz2 rfl _ 1 [.int .i64 x] (by simp [Act.eval]) HR1.out ⟨g, j, none⟩ (j - j) (cap - j) (vals .i64 (L.drop j)) (by simp [Act.eval]) HRd.out ?_ ?_ ?_ ?_ ?_; (focus exact vals_one _ _); (focus (unfold maxLen; omega)); (focus omega); (focus (simp; done)); intro v6 w6 own6 grow6 nil6 at6; obtain ⟨g6, cap6, rfl, hA6, hcap6, hg6, hg6'⟩ := own_open own6 (fun h => by have h' := (nil6.1 h).1; cases h'); have HR6 := Lib.hid (Rd.of_At (c := cap6) hA6); have HOC := Lib.hid (own_cut (((HO.out.drew).alloc (.cells #[.int .i64 x] 3)).kept grow6 (.inr (by simp [Value.ownBlock]; omega))) (k := j) hj); have HB6 := Lib.hid (((HB.out.drew).alloc (by exact HB.out.size) (.cells #[.int .i64 x] 3)).grown grow6 (by have := HB.out.size; simp; omega) (fun g hg => by simp [Value.ownBlock] at hg; have := HB.out.size; omega)); clear hA6 own6 grow6 nil6 at6) | (refine step_app rfl (.tmp 44) (.tmp 51) 23 rfl w.heap.size 3 j0 (.int .i64 0) 8 Tryd.underlying23 hj0 jz0 jz1 jz2 rfl _ j ((vals .i64 L).take j) (by simp [Act.eval]) HOC.out ⟨g6, 0, none⟩ (1 + (j - j)) cap6 ([.int .i64 x] ++ vals .i64 (L.drop j)) (by simp [Act.eval]) (by have h := HR6.out; rwa [List.length_append, vals_len, List.length_drop, ← HM.out] at h) ?_ ?_ ?_ ?_ ?_; (focus exact one_tail x _); (focus (unfold maxLen; omega)); (focus omega); (focus exact HB6.out.size); intro v9 w9 own9 grow9 nil9 at9))
            have hn9 : v9 ≠ .slice none 0 0 := fun h => by have h' := (nil9.1 h).1; cases h'
            have hb9 : Below w.heap.size w w9 := HB6.out.grown grow9 HB6.out.size (fun g hg => by simp [Value.ownBlock] at hg; omega)
            have ho9 : w9.ownsRow w.heap.size 3 1 v9 (put L j x).length (vals .i64 (put L j x)) := by
              rw [put_len L j x (by rw [← HM.out]; exact hj), ← HM.out]
              rw [show j + (1 + (j - j)) = j + 1 by omega] at own9
              rw [show vals .i64 (put L j x) = (vals .i64 L).take j ++ ([.int .i64 x] ++ vals .i64 (L.drop j)) by simp [put, vals, List.map_take]]
              exact own9
            have HE := Lib.hid (And.intro ho9 (And.intro hn9 hb9))
            clear hn9 hb9 ho9 own9 grow9 nil9 at9
            go_wp2
            go_roundw
            case rel =>
              refine ⟨k + 1, put L j x, by omega, by go_num, put_asc L j x (by rw [← HM.out]; exact hj) HASC.out HLO.out (fun hh => ?_), by rw [put_len L j x (by rw [← HM.out]; exact hj), ← HM.out]; omega, fun y hy => ?_, fun _ => by simp [put], HE.out.1, HE.out.2.1, HE.out.2.2⟩
              · rw [← HM.out] at hh; omega
              · rcases put_mem L j x y hy with h | h
                · rw [h]; exact hxb
                · exact HLB.out y h
            case measure => simp [intOf]; omega
    · obtain rfl : k = n := by omega
      have HO := Lib.hid hown
      have HB := Lib.hid hbel
      have HASC := Lib.hid hasc
      have HLB := Lib.hid hLb
      clear hown hbel hasc hLb
      go_wp2
      go_ret
      exact ⟨_, L, rfl, HASC.out, hlk, HLB.out, hne, HO.out, hnil, HB.out⟩
end Go.Proofs.YtbpcmdgfgibbjaaDoor.ListB
