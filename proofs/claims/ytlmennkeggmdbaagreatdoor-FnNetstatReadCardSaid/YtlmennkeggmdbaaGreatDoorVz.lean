/- Side proofs by default arguments. -/
import Derived.KernelRfl
namespace Go.Proofs
theorem Zd {p : Prop} (h : p := by decide) : p := h
theorem Zo {p : Prop} (h : p := by omega) : p := h
theorem Zk {p : Prop} (h : p := by kernel_rfl) : p := h
theorem Zs {p : Prop} (h : p := by simp only [size_put]; omega) : p := h
theorem ZW {α : Type} {p : α → Prop} (h : ∀ W, p W := by intro W; kernel_rfl) : ∀ W, p W := h
theorem Zl {p : Prop} (h : p := by simp only [List.length_append, List.length_cons, List.length_nil]; decide) : p := h
theorem Zb {p q : Prop} (hq : q) (h : q → p := by intro z_; (with_reducible repeat (first | refine blk_drewN ?_ _ | refine ybI ?_ | refine Yw ?_ _)); exact z_) : p := h hq
theorem Zv {p q : Prop} (hq : q) (h : q → p := by intro z_; (with_reducible repeat (first | apply Kd.V_alloc | apply Kd.V_drewN | apply Kd.V_drew)); exact z_) : p := h hq
theorem Zr {p q : Prop} (hq : q) (h : q → p := by intro z_; (with_reducible repeat (first | apply Kd.R_alloc | apply Kd.R_drewN | apply Kd.qh)); exact z_) : p := h hq
theorem Zn {p q : Prop} (hq : q) (h : q → p := by intro z_; (with_reducible repeat (first | apply Kd.N_alloc | apply Kd.N_drewN | apply Kd.yb7)); exact z_) : p := h hq
theorem Zh {p : Prop} (h : p := by repeat (first | (with_reducible first | exact HB.out | apply yl | apply ym | apply yp) | exact HB.out)) : p := h
theorem Zg {p r : Prop} (g : r) (h : r → p := by intro z_; repeat (first | (with_reducible first | exact HB.out | apply yl | apply ym | apply yp | refine yu ?_ z_) | exact HB.out)) : p := h g
theorem Zg2 {p r s : Prop} (g : r) (k : s) (h : r → s → p := by intro z_ y_; repeat (first | (with_reducible first | exact HB.out | apply yl | apply ym | apply yp | refine yu ?_ z_ | refine yu ?_ y_) | exact HB.out)) : p := h g k
theorem Zq {p r : Prop} (g : r) (h : r → p := by intro z_; first | (simp only [size_put, z_]; decide) | decide) : p := h g
end Go.Proofs
