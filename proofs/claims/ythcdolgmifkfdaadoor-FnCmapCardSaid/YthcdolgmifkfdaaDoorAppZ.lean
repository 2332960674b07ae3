/- append(b, make([]T, m)...): m zeros behind a row of the call's own. The model has it as an append with a number. No function of the program in sight. -/
import Derived.Test.YthcdolgmifkfdaaDoorMem
import Derived.Laws.Append
import Derived.Laws.CopyRow
namespace Go.Proofs.YthcdolgmifkfdaaDoor.AppZ
open Go.RowKit
open Lst Mem

theorem zeroCells_one (z : Value) (n : Nat) : (Builtin.zeroCells #[z] n).toList = List.replicate n z := by
  apply List.ext_getElem
  · simp [Builtin.zeroCells]
  · intro i h1 h2
    simp [Builtin.zeroCells, Nat.mod_one]
section
variable {P : Program} (w : World)
theorem run_app_zeros (base : Nat) (t ti ty e : TypeId) (i : TypeInfo) (z : Value) (bytes : Nat) (ht : P.underlying t = some (.slice e)) (hti : P.underlying ti = some (.int .i64)) (hi : P.info? e = some i) (hz : i.zero = some z)
    (hsize : i.size = 1) (hby : i.bytes = bytes) (hzs : z.cells = #[z]) (hz1 : z.oneCell' = true)
    (g n cap : Nat) (xs : List Value) (hown : w.ownsRow base e 1 (.slice (some ⟨g, 0, none⟩) n cap) n xs) (m : Nat)
    (h63 : n + m ≤ maxLen) (hbytes : (n + m) * bytes ≤ 140737488355328) (hbase : base ≤ w.heap.size) (hmb : m * bytes ≤ 140737488355328) :
    ∃ v' w', (Builtin.append_ #[t, ti] ty #[.slice (some ⟨g, 0, none⟩) n cap, .int .i64 (m : Int)]).run P w = .ok v' w' ∧ w'.ownsRow base e 1 v' (n + m) (xs ++ List.replicate m z) ∧ w.grownBy w' (some g) ∧ v' ≠ .slice none 0 0 := by
  have hsmall : n + m ≤ 9223372036854775807 := by simp only [maxLen] at h63; omega
  have hwr : IntKind.i64.wrap (m : Int) = (m : Int) := IntWalk.i64_in _ (by omega)
  have hlen : (xs ++ List.replicate m z).length = (n + m) * 1 := by rw [List.length_append, hown.1, List.length_replicate]; omega
  have hb48 : ¬ (281474976710656 < (m : Int) * (bytes : Int)) := by
    have h : ((m * bytes : Nat) : Int) = (m : Int) * (bytes : Int) := Int.natCast_mul _ _
    omega
  have hneg : ¬ ((m : Int) < 0) := by omega
  obtain ⟨hxl, hr⟩ := hown
  rcases hr with ⟨hv, _⟩ | ⟨g', cap', cur, hv, hbg, hg, hnc, hcm, hcs, htake⟩
  · cases hv
  · simp only [Value.slice.injEq, Option.some.injEq, Addr.mk.injEq, and_true, true_and] at hv
    obtain ⟨rfl, rfl⟩ := hv
    by_cases hroom : n + m ≤ cap
    · have hst := run_storeCells_at P g (n * 1) e (List.replicate m z) 0 cur w hg (by simp; omega) (by intro v hv; rw [List.eq_of_mem_replicate hv]; exact hz1)
      simp only [Nat.add_zero, Nat.mul_one] at hst
      refine ⟨.slice (some ⟨g, 0, none⟩) (n + m) cap, w.setRow g (cur.toList.take n ++ List.replicate m z ++ cur.toList.drop (n + (List.replicate m z).length)).toArray, ?_, ⟨hlen, .inr ⟨g, cap, _, rfl, hbg, setRow_heap w g cur _ e _ hg, hroom, hcm, ?_, ?_⟩⟩, ⟨rfl, rfl, rfl, by simp, fun k _ hk => setRow_other w g k _ (fun e => hk (by simp [e]))⟩, by simp⟩
      · by_cases hm0 : m = 0
        · subst hm0
          have hself : w.setRow g (cur.toList.take n ++ List.replicate 0 z ++ cur.toList.drop (n + (List.replicate 0 z).length)).toArray = w := by
            simp only [List.replicate_zero, List.append_nil, List.length_nil, Nat.add_zero, List.take_append_drop, Array.toArray_toList]
            exact setRow_self w g cur e (0, 0) hg
          rw [hself]
          have hw0 : IntKind.i64.wrap (0 : Int) = 0 := IntWalk.i64_in _ (by omega)
          simp [hw0, Builtin.append_, run_underlying ht, run_underlying hti, sizeOf, typeInfo, hi, asInt, asIntOf, hby, hnc, storeCells]
        · simp [Builtin.append_, run_underlying ht, run_underlying hti, sizeOf, typeInfo, zeroValue, hi, hz, hsize, asInt, asIntOf, hwr, hby, hroom, hneg, hb48, hm0, hzs, zeroCells_one, Addr.add_lit, hst]
      · simp only [List.size_toArray, List.length_append, List.length_take, List.length_drop, Array.length_toList, List.length_replicate]
        omega
      · simp only [Nat.mul_one] at htake hxl ⊢
        rw [htake]
        have : n + m = (xs ++ List.replicate m z).length := by rw [hlen, Nat.mul_one]
        rw [this]
        exact List.take_left
    · have hm0 : m ≠ 0 := by omega
      have hge := grownCap_ge w (n + m) cap e
      have hcm' : grownCap w (n + m) cap e ≤ maxLen := grownCap_le_maxLen w (n + m) cap e h63
      have holds : ∀ j u, xs[j]? = some u → w.cell? ((⟨g, 0, none⟩ : Addr).add j) = some u :=
        World.ownsRow.cells (base := base) (e := e) (size := 1) (v := .slice (some ⟨g, 0, none⟩) n cap) (n := n) ⟨hxl, .inr ⟨g, cap, cur, rfl, hbg, hg, hnc, hcm, hcs, htake⟩⟩ (g := g) rfl
      have hfo := run_firstCells_some (P := P) w.drew 1 n ⟨g, 0, none⟩ n cap xs hxl (by simpa using holds)
      have h63' : ¬ (9223372036854775807 < ((n : Int) + (m : Int))) := by omega
      have hfit := growslice_fits (old := cap) (need := n + m) (bytes := bytes) (by omega) hbytes
      have h48' : ¬ (281474976710656 < Builtin.nextslicecap (n + m) cap * bytes) := by omega
      refine ⟨.slice (some ⟨w.heap.size, 0, none⟩) (n + m) (grownCap w (n + m) cap e), w.drew.alloc (.cells (xs.toArray ++ (List.replicate m z).toArray ++ Builtin.zeroCells #[z] (grownCap w (n + m) cap e - (n + m))) e), ?_,
        ⟨hlen, .inr ⟨w.heap.size, _, _, rfl, hbase, heap_alloc_new w.drew _, hge, hcm', ?_, ?_⟩⟩, ⟨rfl, rfl, rfl, by simp, fun k hk _ => heap_alloc_old w.drew _ hk⟩, by simp⟩
      · have hzc : Builtin.zeroCells #[z] m = (List.replicate m z).toArray := by
          apply Array.ext'
          rw [zeroCells_one]
        simp [Builtin.append_, run_underlying ht, run_underlying hti, sizeOf, typeInfo, zeroValue, hi, hz, hsize, asInt, asIntOf, hwr, hby, hroom, hneg, hb48, hm0, hzs, h63', h48', Question.forced, hfo, newRow, grownCap, hzc]
      · simp only [Array.size_append, List.size_toArray, size_zeroCells, List.length_replicate, List.size_toArray, hxl]
        simp
        omega
      · simp only [Array.toList_append, List.append_assoc]
        rw [← List.append_assoc, ← hlen]
        exact List.take_left

theorem wpList_app_zeros {ops : Array Oper} {rest : List Oper} {o : Oper} {a : Act} {Q : Exit → Act → World → Prop} (hgd : o.guard = none) (s x : Operand) (t ti : TypeId)
    (ho : o.op = .call { callee := .builtin .append, args := #[s, x], argTypes := #[t, ti] })
    (base : Nat) (e : TypeId) (i : TypeInfo) (z : Value) (bytes : Nat) (ht : P.underlying t = some (.slice e)) (hti : P.underlying ti = some (.int .i64)) (hi : P.info? e = some i) (hz : i.zero = some z)
    (hsize : i.size = 1) (hby : i.bytes = bytes) (hzs : z.cells = #[z]) (hz1 : z.oneCell' = true)
    (g n cap : Nat) (xs : List Value) (hs : a.eval s = .slice (some ⟨g, 0, none⟩) n cap) (hown : w.ownsRow base e 1 (.slice (some ⟨g, 0, none⟩) n cap) n xs) (m : Nat) (M : Int) (hx : a.eval x = .int .i64 M) (hM : M = (m : Int))
    (h63 : n + m ≤ maxLen) (hbytes : (n + m) * bytes ≤ 140737488355328) (hbase : base ≤ w.heap.size) (hmb : m * bytes ≤ 140737488355328)
    (h : ∀ v' w', w'.ownsRow base e 1 v' (n + m) (xs ++ List.replicate m z) → w.grownBy w' (some g) → v' ≠ .slice none 0 0 → wpList P ops Q rest (a.put o.dst v') w') : wpList P ops Q (o :: rest) a w := by
  obtain ⟨v', w', hr, h2, h3, h4⟩ := run_app_zeros (P := P) w base t ti o.type e i z bytes ht hti hi hz hsize hby hzs hz1 g n cap xs hown m h63 hbytes hbase hmb
  subst hM
  refine wpList_plain hgd fun _ hK => ?_
  unfold Oper.wp execOp
  simp only [ho, resolve, invoke, builtin, Sem.run_bind, Sem.run_pure, Result.andThen_ok, List.map_toArray, List.map_cons, List.map_nil, hs, hx, hr]
  exact hK _ _ (h v' w' h2 h3 h4)
end
end Go.Proofs.YthcdolgmifkfdaaDoor.AppZ
