/-
  NO GO PROGRAM HERE. Two small moves for a region that draws its order, beside the library's 'wp_region_held', 'wpAnyH_take', 'wpAnyH_done' (Derived.OrdersHeld): the operation that alone may come up; and two that may.
-/
import Derived.WalkKit
import Derived.OrdersHeld
namespace Go.Proofs.Qxb6601750aMods
section
variable {P : Program} {ops : Array Oper} {Q : Exit → Act → World → Prop} {md : Region.Mode} {S : World → Prop}

theorem wpOp_plain {i : Nat} {o : Oper} {K : Act → World → Prop} {a : Act} {w : World} (hi : ops[i]? = some o) (hg : o.guard = none) (h : Oper.wp P o a w K Q) : wpOp P ops Q i K a w := by
  unfold wpOp
  simp only [hi]
  rw [if_pos (by simp [Region.wanted, hg])]
  exact .inl h

theorem held_one {i : Nat} {o : Oper} {fuel : Nat} {listed : Array Bool} {a : Act} {w : World} (hi : ops[i]? = some o) (hr : Region.ready md ops listed = [i]) (hg : o.guard = none)
    (h : Oper.wp P o a w (fun a' w' => S w' ∧ wpAnyH P md ops Q S fuel (listed.setIfInBounds i true) a' w') Q) : wpAnyH P md ops Q S (fuel + 1) listed a w :=
  wpAnyH_all hr (by simp) (fun j hj => by
    simp only [List.mem_singleton] at hj
    subst hj
    exact wpOp_plain hi hg h)

theorem held_two {i j : Nat} {o o' : Oper} {fuel : Nat} {listed : Array Bool} {a : Act} {w : World} (hi : ops[i]? = some o) (hj : ops[j]? = some o') (hr : Region.ready md ops listed = [i, j]) (hg : o.guard = none) (hg' : o'.guard = none)
    (h : Oper.wp P o a w (fun a' w' => S w' ∧ wpAnyH P md ops Q S fuel (listed.setIfInBounds i true) a' w') Q)
    (h' : Oper.wp P o' a w (fun a' w' => S w' ∧ wpAnyH P md ops Q S fuel (listed.setIfInBounds j true) a' w') Q) : wpAnyH P md ops Q S (fuel + 1) listed a w :=
  wpAnyH_all hr (by simp) (fun x hx => by
    simp only [List.mem_cons, List.not_mem_nil, or_false] at hx
    rcases hx with rfl | rfl
    · exact wpOp_plain hi hg h
    · exact wpOp_plain hj hg' h')
end
end Go.Proofs.Qxb6601750aMods
