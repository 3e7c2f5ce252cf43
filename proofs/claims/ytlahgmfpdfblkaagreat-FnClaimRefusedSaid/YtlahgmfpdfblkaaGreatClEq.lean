/- '==' on arrays of three texts and of three Booleans that are the same. -/
import Derived.Test.YtlahgmfpdfblkaaGreatClTexts
import Derived.Laws.StructEq
set_option linter.unusedVariables false
set_option linter.unusedSimpArgs false
namespace Go.Proofs.YtlahgmfpdfblkaaGreat.Cl
open Go.RowKit Go.Proofs.YtlahgmfpdfblkaaGreat.K
theorem eq3 (D : Nat) (T e : TypeId) (a b c : Value) (W : World) (ht : Tryz.prog.underlying T = some (.array 3 e)) (hse : (sizeOf e).run Tryz.prog W = .ok 1 W)
    (hp : ∀ (x y z : Value) , (part e #[x, y, z] 0).run Tryz.prog W = .ok x W ∧ (part e #[x, y, z] 1).run Tryz.prog W = .ok y W ∧ (part e #[x, y, z] 2).run Tryz.prog W = .ok z W)
    (ha : (Op.equalIn D e a a).run Tryz.prog W = .ok true W) (hb : (Op.equalIn D e b b).run Tryz.prog W = .ok true W) (hc : (Op.equalIn D e c c).run Tryz.prog W = .ok true W) :
    (Op.equalIn (D + 1) T (.agg #[a, b, c]) (.agg #[a, b, c])).run Tryz.prog W = .ok true W := by
  obtain ⟨p0, p1, p2⟩ := hp a b c
  simp only [Op.equalIn, Sem.run_bind, run_underlying ht, Result.andThen_ok, hse, Std.Legacy.Range.forIn_eq_forIn_range', Std.Legacy.Range.size]
  simp [List.range', p0, p1, p2, ha, hb, hc, Sem.run_bind, Result.andThen_ok]
theorem eq3s (a b c : ByteArray) (W : World) : Sem.run Tryz.prog (binOp .eql 30 (.agg #[.string a, .string b, .string c]) (.agg #[.string a, .string b, .string c])) W = .ok (.bool true) W := by
  have hs : ∀ (x : ByteArray), Sem.run Tryz.prog (Op.equalIn 9999 9 (.string x) (.string x)) W = .ok true W := fun x => by
    rw [run_equalIn_string W 9998 _ x x Tryz.underlying9]; simp
  rw [run_eql_struct, eq3 9999 30 9 _ _ _ W Tryz.underlying30 (by kernel_rfl) (fun x y z => ⟨by kernel_rfl, by kernel_rfl, by kernel_rfl⟩) (hs a) (hs b) (hs c)]
  rfl
theorem eq3b (a b c : Bool) (W : World) : Sem.run Tryz.prog (binOp .eql 31 (.agg #[.bool a, .bool b, .bool c]) (.agg #[.bool a, .bool b, .bool c])) W = .ok (.bool true) W := by
  have hs : ∀ (x : Bool), Sem.run Tryz.prog (Op.equalIn 9999 4 (.bool x) (.bool x)) W = .ok true W := fun x => by
    rw [run_equalIn_bool' W 9998 _ x x Tryz.underlying4]; simp
  rw [run_eql_struct, eq3 9999 31 4 _ _ _ W Tryz.underlying31 (by kernel_rfl) (fun x y z => ⟨by kernel_rfl, by kernel_rfl, by kernel_rfl⟩) (hs a) (hs b) (hs c)]
  rfl
end Go.Proofs.YtlahgmfpdfblkaaGreat.Cl
