/-
  The two calls that make the tables: each gives back a slice of 168 rows in one new block, leaves all else in memory as it was, and the cells of row i read as the fields of row i.
  Conditions: none. The world in which a call begins is any.
-/
import Derived.Test.YtcidjaekifhfmaaTables
import Derived.RowKit3
namespace Go.Proofs.Ytcidjaekifhfmaa
open Go.Great Go.Lib Go.RowKit

noncomputable def rowsA : Array Value := (T.flatMap cellsA).toArray
noncomputable def rowsB : Array Value := (T.flatMap cellsB).toArray

def idle : Oper := { dst := none, op := .assign (.const undef), type := 0, pos := "", after := #[], guard := none }
def slicePartsOf (o : Oper) : Array (Nat × Operand) :=
  match o.op with
  | .buildSlice _ _ ps => ps
  | _ => #[]

/-- A list of operations of the tables' form: 168 builds, the slice over them, and the store into the result. -/
structure Table (l : List Oper) (t e : TypeId) (pos : String) (f : Row → List Value) (xs : List Row) : Prop where
  cut : l = bOps e pos f 1 xs ++ l.drop 168
  last : l.drop 168 = [l.getD 168 idle, l.getD 169 idle]
  g1 : (l.getD 168 idle).guard = none
  d1 : (l.getD 168 idle).dst = some 169
  o1 : (l.getD 168 idle).op = .buildSlice t 168 (slicePartsOf (l.getD 168 idle))
  p1 : (slicePartsOf (l.getD 168 idle)).toList = (List.range 168).map fun i => (i, Operand.tmp (1 + i))
  g2 : (l.getD 169 idle).guard = none
  d2 : (l.getD 169 idle).dst = some 0
  o2 : (l.getD 169 idle).op = .assign (.tmp 169)

section
variable {P : Program}
theorem run_assign {o : Oper} {x : Operand} (ho : o.op = .assign x) (g : Operand → Value) (w : World) : (execOp g o).run P w = .ok (.value (g x)) w := by
  unfold execOp
  rw [ho]
  simp

/-- What such a list does: one new block with the rows' cells, and the slice over it as the result. -/
theorem wpList_table {ops : Array Oper} {l : List Oper} {t e : TypeId} {pos : String} {f : Row → List Value} {xs : List Row} (L : Table l t e pos f xs) (hn : xs.length = 168)
    (hb : ∀ x : Row, P.built e (((f x).zipIdx 0).map fun p => (p.2, p.1)) = some (f x).toArray)
    (s : Nat) (hs0 : 0 < s) (hs1 : s ≤ 10) (hs : ∀ x, (f x).length = s)
    (hu : P.underlying t = some (.slice e)) (hsz : (P.info? e).map (·.size) = some s) (hz : ((P.info? e).bind (·.zero)).isSome = true)
    {a : Act} {w : World} (ha : a.tmps.size = 170) {Q : Exit → Act → World → Prop}
    (h : ∀ a' : Act, a'.defers = a.defers → a'.tmps.getD 0 undef = .slice (some ⟨w.heap.size, 0, none⟩) 168 168 → Q .normal a' (w.alloc (.cells (xs.flatMap f).toArray e))) :
    wpList P ops Q l a w := by
  rw [L.cut]
  refine wpList_builds e pos f hb xs 1 a (by rw [hn, ha]; omega) fun a' ha' hd' hev _ => ?_
  rw [L.last]
  have hl : (xs.map fun x => Value.agg (f x).toArray).length = 168 := by simp [hn]
  refine wpList_buildRows L.g1 t e _ s (xs.map fun x => Value.agg (f x).toArray) (by rw [hl]; exact L.o1) (fun i => 1 + i) w.heap.size rfl (some 169) L.d1 hu hsz hz hs0 (by rw [hl]; omega)
    (by rw [hl]; omega) (by rw [hl]; exact L.p1) (fun v hv => by obtain ⟨x, _, rfl⟩ := List.mem_map.1 hv; simp [Value.cells, hs]) (fun i hi => by rw [hev i (by simpa using hi)]; simp) ?_
  have e1 : ((xs.map fun x => Value.agg (f x).toArray).flatMap fun v => v.cells.toList) = xs.flatMap f := by simp [List.flatMap_map, Value.cells]
  rw [hl, e1]
  refine wpList_readTo L.g2 (some 0) L.d2 (.slice (some ⟨w.heap.size, 0, none⟩) 168 168) ?_ ?_
  · have : (a'.put (some 169) (.slice (some ⟨w.heap.size, 0, none⟩) 168 168)).eval (.tmp 169) = .slice (some ⟨w.heap.size, 0, none⟩) 168 168 :=
      Act.eval_put_same _ _ _ (by rw [ha', ha]; omega)
    rw [run_assign L.o2, this]
  · refine wpList_nil (h _ (by rw [Act.defers_put', Act.defers_put', hd']) ?_)
    exact Act.eval_put_same _ 0 _ (by rw [Act.size_put, ha', ha]; omega)
end

section
attribute [local irreducible] wpList Code.wp

theorem bodyA : Try.f4.body = some (.seq (.region 0 (#[{ dst := some 0, op := Op.assign (.const (.slice none 0 0)), type := 22, pos := "list.go:4", after := #[], guard := none }] : Array Oper).toList.toArray false)
    (.seq (.region 1 opsA.toArray false) .ret)) := by kernel_rfl
theorem bodyB : Try.f5.body = some (.seq (.region 0 (#[{ dst := some 0, op := Op.assign (.const (.slice none 0 0)), type := 24, pos := "ops.go:14", after := #[], guard := none }] : Array Oper).toList.toArray false)
    (.seq (.region 1 opsB.toArray false) .ret)) := by kernel_rfl

theorem tableA : Table opsA 22 27 "list.go:5" cellsA T :=
  ⟨by rw [← opsA_eq, List.take_append_drop], by kernel_rfl, by kernel_rfl, by kernel_rfl, by kernel_rfl, by kernel_rfl, by kernel_rfl, by kernel_rfl, by kernel_rfl⟩
theorem tableB : Table opsB 24 29 "ops.go:15" cellsB T :=
  ⟨by rw [← opsB_eq, List.take_append_drop], by kernel_rfl, by kernel_rfl, by kernel_rfl, by kernel_rfl, by kernel_rfl, by kernel_rfl, by kernel_rfl, by kernel_rfl⟩

theorem opsA_any (w : World) : Calls Try.prog 4 #[] w fun e w' => e = .returned (.slice (some ⟨w.heap.size, 0, none⟩) 168 168) ∧ w' = w.alloc (.cells rowsA 27) := by
  refine calls_of_wp Try.func4 bodyA ?_
  refine wp_anyFrame 170 (by rw [Try.ntmps4]; simp) rfl fun a ha hd => ?_
  apply wp_seq_k; intro K hK
  apply wp_region_lit
  refine wpList_runTo rfl (some 0) rfl (.slice none 0 0) w (by unfold execOp; simp [Act.eval]) ?_
  refine wpList_nil (hK _ _ ?_)
  clear hK K
  apply wp_seq_k; intro K hK
  apply wp_region_lit
  refine wpList_table tableA len_T builtA 3 (by omega) (by omega) (fun _ => rfl) (by kernel_rfl) (by kernel_rfl) (by kernel_rfl) (by rw [Act.size_put, ha]) fun a' hd' h0 => ?_
  refine hK _ _ ?_
  apply wp_ret
  exact bodyPost_ret (results_tmp rfl _ _ _) (by rw [hd', Act.defers_put', hd]) ⟨by rw [h0], rfl⟩

theorem opsB_any (w : World) : Calls Try.prog 5 #[] w fun e w' => e = .returned (.slice (some ⟨w.heap.size, 0, none⟩) 168 168) ∧ w' = w.alloc (.cells rowsB 29) := by
  refine calls_of_wp Try.func5 bodyB ?_
  refine wp_anyFrame 170 (by rw [Try.ntmps5]; simp) rfl fun a ha hd => ?_
  apply wp_seq_k; intro K hK
  apply wp_region_lit
  refine wpList_runTo rfl (some 0) rfl (.slice none 0 0) w (by unfold execOp; simp [Act.eval]) ?_
  refine wpList_nil (hK _ _ ?_)
  clear hK K
  apply wp_seq_k; intro K hK
  apply wp_region_lit
  refine wpList_table tableB len_T builtB 4 (by omega) (by omega) (fun _ => rfl) (by kernel_rfl) (by kernel_rfl) (by kernel_rfl) (by rw [Act.size_put, ha]) fun a' hd' h0 => ?_
  refine hK _ _ ?_
  apply wp_ret
  exact bodyPost_ret (results_tmp rfl _ _ _) (by rw [hd', Act.defers_put', hd]) ⟨by rw [h0], rfl⟩
end
end Go.Proofs.Ytcidjaekifhfmaa
