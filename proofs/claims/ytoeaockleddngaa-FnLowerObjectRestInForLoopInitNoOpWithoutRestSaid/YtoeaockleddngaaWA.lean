/- lowerObjectRestInDecls where it has nothing to lower. -/
import Derived.Test.YtoeaockleddngaaW9
namespace Go.Proofs.Ytoeaockleddngaa
open Go Go.RowKit
set_option maxRecDepth 100000
set_option linter.unusedVariables false

/-- The feature bit: clear. -/
theorem decls_clear (a : Option Addr) (L c pb : Nat) (x : Int) (w : World) (hp : w.cell? ⟨pb, 23, none⟩ = some (.int .u64 x)) (hx : (bits BinOp.and IntKind.u64 x 35184372088832 != 0) = false) :
    Calls Try.prog 37 #[.pointer (some ⟨pb, 0, none⟩), .slice a L c] w fun e w' => e = .returned (.slice a L c) ∧ w' = w := by
  have HX := Lib.hid hx
  clear hx
  go_enter Try.func37, Try.ntmps37
  go_wp2_with (first | (go_at_call 42; refine (has_bit x 35184372088832 _).mono ?_; rw [HX.out]; rintro ee w1 ⟨rfl, rfl⟩))
  go_ret
  exact ⟨rfl, rfl⟩

/-- The declarations: the t-th has the pattern of node 'R t' and the value 'E t'. -/
def Decls (K : Nat → Nat) (w0 : Nat) (R : Nat → Nat) (E : Nat → Value) (w : World) (a : Option Addr) (L : Nat) : Prop :=
  ∀ t, t < L → ∃ g, a = some ⟨g, 0, none⟩ ∧ g < w.heap.size ∧ w.cell? ⟨g, t * 4, none⟩ = some (nodeV (K (R t)) (w0 + 3 + R t)) ∧ w.cell? ⟨g, t * 4 + 1, none⟩ = some (.int .i32 0) ∧ w.cell? ⟨g, t * 4 + 2, none⟩ = some (E t) ∧ w.cell? ⟨g, t * 4 + 3, none⟩ = some (.int .i32 0)

theorem decls_none {K : Nat → Nat} {par : Nat → Int} {S : Nat → Bool} {n w0 : Nat} {V : Nat → Value} (hpar : Fo.Par K n par) (hn : n ≤ 65536) (R : Nat → Nat) (E : Nat → Value) (a : Option Addr) (L c pb : Nat) (hL : L ≤ 65536) (x : Int) (w : World)
    (hg : Grow K par S n w0 w n V) (hp : w.cell? ⟨pb, 23, none⟩ = some (.int .u64 x)) (hx : (bits BinOp.and IntKind.u64 x 35184372088832 != 0) = true)
    (hd : Decls K w0 R E w a L) (hR : ∀ t, t < L → R t < n) (hE : ∀ t, t < L → E t = .nilIface ∨ ((∃ u, E t = .iface 53 u) ∧ Fo.hr K par S n (R t) = false)) :
    Calls Try.prog 37 #[.pointer (some ⟨pb, 0, none⟩), .slice a L c] w fun e w' => e = .returned (.slice a L c) ∧ Below w.heap.size w w' := by
  have HX := Lib.hid hx
  have HQ := Lib.hid hpar
  have HG := Lib.hid hg
  have HD := Lib.hid hd
  have HR := Lib.hid hR
  have HE := Lib.hid hE
  clear hx hpar hg hd hR hE
  go_enter Try.func37, Try.ntmps37
  go_wp2_with (first | (go_at_call 42; refine (has_bit x 35184372088832 _).mono ?_; rw [HX.out]; rintro ee w1 ⟨rfl, rfl⟩))
  go_loopw [24] (fun iv wx => ∃ t : Nat, t ≤ L ∧ iv = .int .i64 t ∧ Below w.heap.size w wx)
    (fun iv _ => L - (intOf iv).toNat)
  case atStart => exact ⟨0, by omega, rfl, by go_grown⟩
  case round =>
    obtain ⟨t, htl, rfl, hbel⟩ := hrel
    have HB := Lib.hid hbel
    clear hbel
    by_cases hlt : t < L
    · obtain ⟨g, rfl, hgl, c1, c2, c3, c4⟩ := HD.out t hlt
      obtain ⟨wx, rfl⟩ : ∃ wx : World, wx = wr := ⟨_, rfl⟩
      have hh := fun (y : Nat) => HB.out.cell (p := ⟨g, y, none⟩) hgl
      rw [← hh] at c1 c2 c3 c4
      have hrn := HR.out t hlt
      obtain ⟨ty, nv, hnv⟩ := nodeV_form (K (R t)) (w0 + 3 + R t)
      have GW : Hid (∀ o, Grow K par S n w0 (wx.alloc o) n V) := Lib.hid fun o => HG.out.later (HB.out.alloc HB.out.size o)
      have IHC : Hid (∀ W, Grow K par S n w0 W n V → Calls Try.prog 38 #[.agg #[.iface ty nv, .int .i32 0]] W fun e w' => e = .returned (.bool (Fo.hr K par S n (R t))) ∧ Below W.heap.size W w') := by
        rw [← hnv]; exact Lib.hid fun W hW => has_any HQ.out hn (n - R t) (R t) (Nat.le_refl _) hrn W hW
      rw [hnv] at c1
      clear hh hnv
      rcases HE.out t hlt with he | ⟨⟨u, he⟩, hv⟩
      · rw [he] at c3
        clear he
        go_wp2_with fail
        go_roundw
        case rel => exact ⟨t + 1, by omega, by go_num, HB.out.alloc HB.out.size _⟩
        case measure => simp [intOf]; omega
      · rw [he] at c3
        have HV := Lib.hid hv
        clear he hv
        go_wp2_with (first
          | (go_at_call 38; refine (IHC.out _ (GW.out _)).mono ?_; rw [HV.out]; rintro ee w1 ⟨rfl, hw1⟩; have HW := Lib.hid hw1; clear hw1))
        go_roundw
        case rel => exact ⟨t + 1, by omega, by go_num, below_call HB.out HW.out⟩
        case measure => simp [intOf]; omega
    · go_wp2_with fail
      go_ret
      exact ⟨rfl, HB.out⟩
end Go.Proofs.Ytoeaockleddngaa
