/-
  The two tables of operations: each of the two functions makes one slice of 168 rows, and the rows of the first are the rows of the second without their last field.
  Conditions: none. The world in which a call begins is any.
-/
import Derived.Test.YtcidjaekifhfmaaProg
import Derived.Great.Walk
import Derived.Great.CaseRows
import Derived.WalkKit
namespace Go.Proofs.Ytcidjaekifhfmaa
open Go.Great Go.Lib

/-- A row: a name, a form, a size, a name without the size. -/
abbrev Row := ByteArray × Int × Int × ByteArray

/-- What the translation's operation says of a row: read off it, nothing typed. -/
def constOf : Operand → Value
  | .const v => v
  | _ => undef
def rowOf : List Value → Row
  | [.string s, .int _ f, .int _ b, .string s'] => (s, f, b, s')
  | _ => (ByteArray.empty, 0, 0, ByteArray.empty)
def partsOf (o : Oper) : List Value :=
  match o.op with
  | .build _ ps => ps.toList.map fun p => constOf p.2
  | _ => []
def bodyOps : Code → List Oper
  | .seq _ (.seq (.region _ ops _) _) => ops.toList
  | _ => []
noncomputable def opsA : List Oper := (Try.f4.body.map bodyOps).getD []
noncomputable def opsB : List Oper := (Try.f5.body.map bodyOps).getD []
noncomputable def T : List Row := (opsB.take 168).map fun o => rowOf (partsOf o)

/-- The cells of a row, in the first and in the second table. -/
def cellsA (x : Row) : List Value := [.string x.1, .int .i64 x.2.1, .int .i64 x.2.2.1]
def cellsB (x : Row) : List Value := [.string x.1, .int .i64 x.2.1, .int .i64 x.2.2.1, .string x.2.2.2]
/-- The operation that builds a struct out of constants, and a row of such. -/
def mkParts (l : List Value) : Array (Nat × Operand) := ((l.zipIdx 0).map fun p => (p.2, Operand.const p.1)).toArray
def bOps (t : TypeId) (pos : String) (f : Row → List Value) : Nat → List Row → List Oper
  | _, [] => []
  | d, x :: xs => { dst := some d, op := .build t (mkParts (f x)), type := t, pos := pos, after := #[], guard := none } :: bOps t pos f (d + 1) xs

theorem parts_eval' (a : Act) (l : List Value) : ((mkParts l).map fun (i, x) => (i, a.eval x)).toList = (l.zipIdx 0).map fun p => (p.2, p.1) := by
  simp [mkParts, Function.comp_def, Act.eval]

section
variable {P : Program}
theorem wpList_builds {ops : Array Oper} {rest : List Oper} {w : World} {Q : Exit → Act → World → Prop} (t : TypeId) (pos : String) (f : Row → List Value)
    (hb : ∀ x : Row, P.built t (((f x).zipIdx 0).map fun p => (p.2, p.1)) = some (f x).toArray) :
    ∀ (xs : List Row) (d : Nat) (a : Act), d + xs.length ≤ a.tmps.size →
      (∀ a' : Act, a'.tmps.size = a.tmps.size → a'.defers = a.defers → (∀ i (h : i < xs.length), a'.eval (.tmp (d + i)) = .agg (f xs[i]).toArray) →
        (∀ j, j < d → a'.eval (.tmp j) = a.eval (.tmp j)) → wpList P ops Q rest a' w) →
      wpList P ops Q (bOps t pos f d xs ++ rest) a w
  | [], d, a, _, h => h a rfl rfl (fun i hi => absurd hi (by simp)) (fun _ _ => rfl)
  | x :: xs, d, a, hd, h => by
    have hlt : d < a.tmps.size := by simp at hd; omega
    show wpList P ops Q (_ :: (bOps t pos f (d + 1) xs ++ rest)) a w
    refine wpList_buildTo rfl t _ rfl (some d) rfl (f x).toArray (by rw [parts_eval']; exact hb x) ?_
    refine wpList_builds t pos f hb xs (d + 1) _ (by rw [Act.size_put]; simp at hd; omega) fun a' hs hdf hev hlow => ?_
    refine h a' (hs.trans (Act.size_put _ _ _)) (hdf.trans (Act.defers_put' _ _ _)) (fun i hi => ?_) (fun j hj => ?_)
    · cases i with
      | zero => rw [Nat.add_zero, hlow d (by omega), Act.eval_put_same _ _ _ hlt]; rfl
      | succ i =>
        have := hev i (by simpa using hi)
        rw [show d + (i + 1) = d + 1 + i by omega, this]
        rfl
    · rw [hlow j (by omega), Act.eval_put_ne _ _ _ _ (by omega)]

/-- The cell of field k of row i, in a row of rows with s cells each. -/
theorem flat_at (f : Row → List Value) (s : Nat) (hs : ∀ x, (f x).length = s) : ∀ (xs : List Row) (i k : Nat) (h : i < xs.length), k < s →
    (xs.flatMap f)[i * s + k]? = (f xs[i])[k]?
  | [], i, k, h, _ => absurd h (by simp)
  | x :: xs, 0, k, _, hk => by
    rw [List.flatMap_cons, List.getElem?_append_left (by rw [hs]; omega)]; simp
  | x :: xs, i + 1, k, h, hk => by
    rw [List.flatMap_cons, List.getElem?_append_right (by rw [hs, Nat.succ_mul]; omega), hs, show (i + 1) * s + k - s = i * s + k by rw [Nat.succ_mul]; omega,
      flat_at f s hs xs i k (by simpa using h) hk]
    simp
end

theorem len_T : T.length = 168 := by kernel_rfl
theorem opsA_eq : opsA.take 168 = bOps 27 "list.go:5" cellsA 1 T := by kernel_rfl
theorem opsB_eq : opsB.take 168 = bOps 29 "ops.go:15" cellsB 1 T := by kernel_rfl
theorem builtA (x : Row) : Try.prog.built 27 (((cellsA x).zipIdx 0).map fun p => (p.2, p.1)) = some (cellsA x).toArray := by kernel_rfl
theorem builtB (x : Row) : Try.prog.built 29 (((cellsB x).zipIdx 0).map fun p => (p.2, p.1)) = some (cellsB x).toArray := by kernel_rfl

end Go.Proofs.Ytcidjaekifhfmaa
