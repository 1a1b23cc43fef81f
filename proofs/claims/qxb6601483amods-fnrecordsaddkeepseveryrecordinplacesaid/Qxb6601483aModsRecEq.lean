import Derived.Test.Qxb6601483aModsRecFields
import Derived.ChangeKeysEq
namespace Go.Proofs.Qxb6601483aMods
open Go.ChangeShapes Go.WideShapes Go.ChangeAt Go.RowKit

theorem cellsOf5 : Trym.prog.cellsOf 5 = 1 := by kernel_rfl

theorem eqItems_same (xs : Array Value) (hx : xs.size = 20) (hi : ∀ v ∈ xs, ∃ n, v = .int .u8 n) (d : Nat) (w : World) : ∀ is : List Nat, (∀ i ∈ is, i < 20) → (Op.eqItems (d + 1) 5 1 xs xs is).run Trym.prog w = .ok true w
  | [], _ => by simp [Op.eqItems]
  | i :: is, h => by
    have ih := eqItems_same xs hx hi d w is (fun j hj => h j (by simp [hj]))
    have hlt : i < xs.size := by rw [hx]; exact h i (by simp)
    obtain ⟨n, hn⟩ := hi _ (Array.getElem_mem hlt)
    obtain ⟨i0, hi0, hz0, hz1, hz2⟩ := info_parts Trym.info5
    have hp : (Go.part 5 xs (i * 1)).run Trym.prog w = .ok (.int .u8 n) w := by
      simp [Go.part, isAgg, run_underlying Trym.underlying5, hn, hlt]
    have he : (Op.equalIn (d + 1) 5 (.int .u8 n) (.int .u8 n)).run Trym.prog w = .ok true w := by
      simp [Op.equalIn, run_underlying Trym.underlying5]
    simp only [Op.eqItems, Sem.run_bind, hp, he, Result.andThen_ok]
    simpa using ih

theorem neq38 (ids : List Value) (hids : ids.length = 20) (hi : ∀ v ∈ ids, ∃ n, v = .int .u8 n) (w : World) :
    (binOp .neq 38 (.agg ids.toArray) (.agg ids.toArray)).run Trym.prog w = .ok (.bool false) w := by
  obtain ⟨i0, hi0, _⟩ := info_parts Trym.info5
  have h := run_equalIn_array (P := Trym.prog) w 9999 (t := 38) ids.toArray ids.toArray Trym.underlying38 hi0
  rw [cellsOf5, eqItems_same ids.toArray (by simpa using hids) (by simpa using hi) 9998 w (List.range 20) (fun i hi => List.mem_range.1 hi)] at h
  simp only [binOp]
  simp [Op.equal, Op.maxDepth, h]

theorem same_addr (a : Addr) (w : World) : (sameAddr a a).run Trym.prog w = .ok true w := by simp [sameAddr]
theorem neq46 (a : Addr) (w : World) : (binOp .neq 46 (.pointer (some a)) (.pointer (some a))).run Trym.prog w = .ok (.bool false) w := by
  have h : ∀ d : Nat, (Op.equalIn (d + 1) 46 (.pointer (some a)) (.pointer (some a))).run Trym.prog w = .ok true w := fun d => by
    simp [Op.equalIn, run_underlying Trym.underlying46, typeInfo, same_addr]
  simp only [binOp]
  simp [Op.equal, Op.maxDepth, h 9999]
end Go.Proofs.Qxb6601483aMods
