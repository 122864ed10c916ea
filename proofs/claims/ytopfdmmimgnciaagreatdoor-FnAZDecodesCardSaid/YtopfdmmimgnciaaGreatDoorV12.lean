/-
  GROUND: append(xs, make([]T, n)...): zeros behind a row of the call's own. Over any program.
-/
import Derived.Test.YtopfdmmimgnciaaGreatDoorV01
namespace Go.Proofs.YtopfdmmimgnciaaGreatDoor
open Go.RowKit
section
variable {P : Program} (w : World)
theorem zeroCells_one (z0 : Value) (m : Nat) : Builtin.zeroCells #[z0] m = Array.replicate m z0 := by
  apply Array.ext_getElem?
  intro i
  unfold Builtin.zeroCells
  by_cases hi : i < m
  · simp [hi, Nat.mod_one]
  · simp [hi]
theorem run_app_zeros (base : Nat) (t ti ty e : TypeId) (i : TypeInfo) (z z0 : Value) (bytes : Nat) (ht : P.underlying t = some (.slice e)) (hti : P.underlying ti = some (.int .i64)) (hi : P.info? e = some i) (hz : i.zero = some z)
    (hsize : i.size = 1) (hby : i.bytes = bytes) (hzs : z.cells = #[z0]) (hz1 : z0.oneCell' = true)
    (v : Value) (n : Nat) (xs : List Value) (hown : w.ownsRow base e 1 v n xs) (m : Nat) (h63 : n + m ≤ maxLen) (hbytes : (n + m) * bytes ≤ 140737488355328) (hbase : base ≤ w.heap.size) :
    ∃ v' w', (Builtin.append_ #[t, ti] ty #[v, .int .i64 (m : Int)]).run P w = .ok v' w' ∧ w'.ownsRow base e 1 v' (n + m) (xs ++ List.replicate m z0) ∧ w.grownBy w' v.ownBlock := by
  subst hby
  have hsmall : n + m ≤ 9223372036854775807 := by simp only [maxLen] at h63; omega
  have hwrap : IntKind.i64.wrap (m : Int) = (m : Int) := by rw [IntKind.wrap_i64]; omega
  have hw0 : IntKind.i64.wrap 0 = 0 := by decide
  have hlt0 : ¬ ((m : Int) < 0) := by omega
  have hmb : m * i.bytes ≤ 140737488355328 := Nat.le_trans (Nat.mul_le_mul_right _ (Nat.le_add_left _ _)) hbytes
  have h48 : ¬ (281474976710656 < (m : Int) * (i.bytes : Int)) := by
    have : (m : Int) * (i.bytes : Int) = ((m * i.bytes : Nat) : Int) := by simp
    rw [this]; omega
  have hlen : (xs ++ List.replicate m z0).length = (n + m) * 1 := by rw [List.length_append, hown.1, List.length_replicate]; omega
  have grown : ∀ (old : Nat), old < n + m → ∀ (row : Option Nat),
      (w.drew.alloc (.cells (xs.toArray ++ (List.replicate m z0).toArray ++ Builtin.zeroCells z.cells (grownCap w (n + m) old e - (n + m))) e)).ownsRow base e 1
        (.slice (some ⟨w.heap.size, 0, none⟩) (n + m) (grownCap w (n + m) old e)) (n + m) (xs ++ List.replicate m z0) ∧
      w.grownBy (w.drew.alloc (.cells (xs.toArray ++ (List.replicate m z0).toArray ++ Builtin.zeroCells z.cells (grownCap w (n + m) old e - (n + m))) e)) row := by
    intro old ho row
    have hge := grownCap_ge w (n + m) old e
    have hcm : grownCap w (n + m) old e ≤ maxLen := grownCap_le_maxLen w (n + m) old e h63
    refine ⟨⟨hlen, .inr ⟨w.heap.size, _, _, rfl, hbase, heap_alloc_new w.drew _, hge, hcm, ?_, ?_⟩⟩, ⟨rfl, rfl, rfl, by simp, fun k hk _ => by first | exact heap_alloc_old w.drew _ k hk | exact heap_alloc_old w.drew _ hk⟩⟩
    · have hx := hown.1
      simp only [Array.size_append, List.size_toArray, size_zeroCells, hzs, hx, List.length_replicate]
      simp; omega
    · simp only [Array.toList_append, List.append_assoc]
      rw [← List.append_assoc, ← hlen]
      exact List.take_left
  rcases hown.2 with ⟨rfl, rfl⟩ | ⟨g, cap, cur, rfl, hbg, hg, hnc, hcm, hcs, htake⟩
  · have hx : xs = [] := List.eq_nil_of_length_eq_zero (by simpa using hown.1)
    subst hx
    by_cases hm : m = 0
    · subst hm
      refine ⟨.slice none 0 0, w, ?_, World.ownsRow_nil w base e 1, ⟨rfl, rfl, rfl, Nat.le_refl _, fun _ _ _ => rfl⟩⟩
      simp [Builtin.append_, run_underlying ht, run_underlying hti, sizeOf, typeInfo, hi, asInt, asIntOf, hw0]
    · have hgr := grown 0 (by omega) (Value.ownBlock (.slice none 0 0))
      simp only [Nat.zero_add, List.nil_append, Array.empty_append] at hgr ⊢
      refine ⟨_, _, ?_, hgr.1, hgr.2⟩
      have h48' : ¬ (281474976710656 < Builtin.nextslicecap m 0 * i.bytes) := by rw [nextslicecap_zero (by omega)]; omega
      have h63' : ¬ (9223372036854775807 < (m : Int)) := by simp only [maxLen] at h63; omega
      simp [Builtin.append_, run_underlying ht, run_underlying hti, sizeOf, typeInfo, zeroValue, hi, hz, hsize, asInt, asIntOf, hwrap, hlt0, h48, hm, h63', h48', Question.forced, newRow, grownCap, Builtin.firstCells, hzs, zeroCells_one]
  · have hcs1 : cur.size = cap := by omega
    by_cases hroom : n + m ≤ cap
    · have hfit : n + m ≤ cur.size := by omega
      have hst := run_storeCells_at P g (n * 1) e (List.replicate m z0) 0 cur w hg (by simp; omega) (fun u hu => by rw [List.eq_of_mem_replicate hu]; exact hz1)
      simp only [Nat.add_zero, Nat.mul_one] at hst
      refine ⟨_, w.setRow g (cur.toList.take n ++ List.replicate m z0 ++ cur.toList.drop (n + m)).toArray, ?_, ⟨hlen, .inr ⟨g, cap, _, rfl, hbg, setRow_heap w g cur _ e _ hg, hroom, hcm, ?_, ?_⟩⟩, ⟨rfl, rfl, rfl, by simp, fun k _ hk => setRow_other w g k _ (fun e => hk (by simp [Value.ownBlock, e]))⟩⟩
      rotate_left
      · simp only [List.size_toArray, List.length_append, List.length_take, List.length_drop, Array.length_toList, List.length_replicate]
        omega
      · have htake' : cur.toList.take n = xs := by simpa using htake
        rw [htake', ← hlen]
        exact List.take_left
      · have hl : (List.replicate m z0).length = m := List.length_replicate
        rw [hl] at hst
        by_cases hm : m = 0
        · subst hm
          have hself := setRow_self w g cur e (0, 0) hg
          simp [Builtin.append_, run_underlying ht, run_underlying hti, sizeOf, typeInfo, zeroValue, hi, hz, asInt, asIntOf, hw0, hnc, storeCells, hself]
        · simp [Builtin.append_, run_underlying ht, run_underlying hti, sizeOf, typeInfo, zeroValue, hi, hz, hsize, asInt, asIntOf, hwrap, hlt0, h48, hm, hroom, hzs, zeroCells_one, Addr.add_lit, hst]
    · have holds : ∀ j u, xs[j]? = some u → w.cell? ((⟨g, 0, none⟩ : Addr).add j) = some u := hown.cells (g := g) rfl
      have hgr := grown cap (by omega) (Value.ownBlock (.slice (some ⟨g, 0, none⟩) n cap))
      have hm : ¬ m = 0 := by omega
      have h48' : ¬ (281474976710656 < Builtin.nextslicecap (n + m) cap * i.bytes) := by
        have := growslice_fits (need := n + m) (old := cap) (bytes := i.bytes) (by omega) hbytes; omega
      have h63' : ¬ (9223372036854775807 < ((n : Int) + (m : Int))) := by omega
      have hfo := run_firstCells_some (P := P) w.drew 1 n ⟨g, 0, none⟩ n cap xs hown.1 (by simpa using holds)
      refine ⟨_, _, ?_, hgr.1, hgr.2⟩
      simp [Builtin.append_, run_underlying ht, run_underlying hti, sizeOf, typeInfo, zeroValue, hi, hz, hsize, asInt, asIntOf, hwrap, hlt0, h48, hm, hroom, h63', h48', Question.forced, hfo, newRow, grownCap, hzs, zeroCells_one]
theorem list_app_zeros {ops : Array Oper} {rest : List Oper} {o : Oper} {a : Act} {Q : Exit → Act → World → Prop} (hgd : o.guard = none) (s x : Operand) (t ti : TypeId)
    (ho : o.op = .call { callee := .builtin .append, args := #[s, x], argTypes := #[t, ti] })
    (base : Nat) (e : TypeId) (i : TypeInfo) (z z0 : Value) (bytes : Nat) (ht : P.underlying t = some (.slice e)) (hti : P.underlying ti = some (.int .i64)) (hi : P.info? e = some i) (hz : i.zero = some z)
    (hsize : i.size = 1) (hby : i.bytes = bytes) (hzs : z.cells = #[z0]) (hz1 : z0.oneCell' = true)
    (v : Value) (n : Nat) (xs : List Value) (hs : a.eval s = v) (hown : w.ownsRow base e 1 v n xs) (m : Nat) (hx : a.eval x = .int .i64 (m : Int))
    (h63 : n + m ≤ maxLen) (hbytes : (n + m) * bytes ≤ 140737488355328) (hbase : base ≤ w.heap.size)
    (h : ∀ v' w', w'.ownsRow base e 1 v' (n + m) (xs ++ List.replicate m z0) → w.grownBy w' v.ownBlock → wpList P ops Q rest (a.put o.dst v') w') : wpList P ops Q (o :: rest) a w := by
  refine wpList_plain hgd fun K hK => ?_
  obtain ⟨v', w', hrun, h2, h3⟩ := run_app_zeros (P := P) w base t ti o.type e i z z0 bytes ht hti hi hz hsize hby hzs hz1 v n xs hown m h63 hbytes hbase
  unfold Oper.wp execOp
  simp only [ho, resolve, invoke, builtin, Sem.run_bind, Sem.run_pure, Result.andThen_ok, List.map_toArray, List.map_cons, List.map_nil, hs, hx, hrun]
  exact hK _ _ (h v' w' h2 h3)
end
end Go.Proofs.YtopfdmmimgnciaaGreatDoor
