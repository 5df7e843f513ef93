/- zzLoopRun at an expression head: it says yes. -/
import Derived.Test.YtoeaockleddngaaE7
import Derived.Test.YtoeaockleddngaaE9
import Derived.Deep.Cut
import Derived.Deep.CutBlock
import Derived.Deep.DeepCutAuto
namespace Go.Proofs.Ytoeaockleddngaa
open Go Go.RowKit
set_option maxRecDepth 100000
set_option linter.unusedVariables false

theorem one_new (w : World) (l : List Value) (t : TypeId) (j : Nat) (v : Value) (h : l[j]? = some v) : (w.alloc (.cells l.toArray t)).cell? ⟨w.heap.size, j, none⟩ = some v := by
  have := cells_new w l t j v h
  rw [add_at] at this
  exact this
theorem one_old (w : World) (l : List Value) (t : TypeId) (o : Obj) (j : Nat) (v : Value) (h : l[j]? = some v) : ((w.alloc (.cells l.toArray t)).alloc o).cell? ⟨w.heap.size, j, none⟩ = some v := by
  rw [cell_of_block (Below.heap_alloc _ o _ (by simp))]
  exact one_new w l t j v h
/-- What zzBuildExpr answers, for the search. -/
def BuiltE (b : Bool) (w : World) (e : Ending) (w' : World) : Prop :=
  ∃ ev, e = .returned (.agg #[ev, .int .i32 0]) ∧ (ev = .nilIface ∨ ∃ ty nv, ev = .iface ty nv) ∧ (∀ W, Below w'.heap.size w' W → Calls Try.prog 41 #[.agg #[ev, .int .i32 0]] W fun e w' => e = .returned (.bool b) ∧ Below W.heap.size W w') ∧ Below w.heap.size w w'
theorem ebuild_any (n kc pb pc qb qc sn sc : Nat) (ka sa : Option Addr) (K : Nat → Nat) (par : Nat → Int) (slot : Nat → Nat) (S : Nat → Bool) (w : World) (hn : n ≤ 65536) (hsn : sn ≤ 65536) (hK : ∀ j, K j ≤ 255)
    (hpar : Ex.Par K n par slot) (hk : Arr w ka n fun j => .int .u8 (K j)) (hp : w.rowIs pb 3 n fun j => .int .i64 (par j)) (hq : w.rowIs qb 3 n fun j => .int .i64 (slot j : Int)) (hs : Arr w sa sn fun j => .bool (S j)) :
    Calls Try.prog 33 #[.slice ka n kc, .slice (some ⟨pb, 0, none⟩) n pc, .slice (some ⟨qb, 0, none⟩) n qc, .slice sa sn sc] w (BuiltE (Ex.er K par slot (fOf sn S) n 0) w) := by
  by_cases h0 : n = 0
  · subst h0
    clear hk hp hq hs
    have he : Ex.er K par slot (fOf sn S) 0 0 = false := rfl
    rw [he]
    clear he
    go_enter Try.func33, Try.ntmps33
    go_wp2
    refine bodyPost_ret (v := .agg #[.nilIface, .int .i32 0]) ?_ rfl ⟨.nilIface, rfl, .inl rfl, fun W _ => En.has_nil W, by go_grown⟩
    simp [results, Try.results33, go_sem]
  · refine (En.build_any n kc pb pc qb qc sn sc ka sa K par slot S w hn (by omega) hsn hK hpar hk hp hq hs).mono ?_
    rintro e w' ⟨V, rfl, hg, hb⟩
    refine ⟨_, rfl, ?_, fun W hW => ?_, hb⟩
    · obtain ⟨ty, nv, hnv⟩ := En.nodeV_form (K 0) (w.heap.size + 1 + 4 + 0)
      exact .inr ⟨ty, nv, hnv⟩
    · exact En.has_any hpar hn n 0 (by omega) (by omega) W (hg.later hW)

section
variable (ka pa sa : Option Addr) (n kc pn pc sn sc : Nat) (K : Nat → Nat) (Q : Nat → Int) (S : Nat → Bool) (ns : Nat) (w : World) (x : Int)
set_option maxHeartbeats 2000000 in
theorem runE_any (hn : n ≤ 65536) (hpn : pn ≤ 65536) (hsn : sn ≤ 65536) (hns : ns ≤ 65535) (hK : ∀ j, K j ≤ 255) (hQ : ∀ j, -2147483648 ≤ Q j ∧ Q j ≤ 2147483647)
    (hk : Arr w ka n fun j => .int .u8 (K j)) (hp : Arr w pa pn fun j => .int .i32 (Q j)) (hs : Arr w sa sn fun j => .bool (S j))
    (hx : (bits BinOp.and IntKind.u64 x 35184372088832 != 0) = false ∨ Ex.er K (Ex.sh K (qOf pn Q) n).par (Ex.sh K (qOf pn Q) n).slot (fOf sn S) n 0 = false) :
    Calls Try.prog 18 #[.int .u64 x, .bool false, .slice ka n kc, .slice pa pn pc, .slice sa sn sc, .int .u16 ns] w fun e w' => e = .returned (.bool true) ∧ Below w.heap.size w w' := by
  have HK := Lib.hid hk
  have HP := Lib.hid hp
  have HS := Lib.hid hs
  have HK2 := Lib.hid hK
  have HQ2 := Lib.hid hQ
  have HX := Lib.hid hx
  have HPAR : Hid (Ex.Par K n (Ex.sh K (qOf pn Q) n).par (Ex.sh K (qOf pn Q) n).slot) := Lib.hid (Ex.good K (qOf pn Q) n).par
  clear hk hp hs hK hQ hx
  obtain ⟨want, HWANT⟩ : ∃ b, Hid (b = Ex.er K (Ex.sh K (qOf pn Q) n).par (Ex.sh K (qOf pn Q) n).slot (fOf sn S) n 0) := ⟨_, Lib.hid rfl⟩
  rw [← HWANT.out] at HX
  go_enter Try.func18, Try.ntmps18
  go_upto_region 5 with (first | (go_at_call 28; refine (make_any ns hns _).mono ?_; rintro ee w6 ⟨⟨a, ac, rfl, ha⟩, hb6⟩; have HA := Lib.hid ha; have HB6 := Lib.hid hb6; clear ha hb6))
  go_cut [17] (fun v wz => v = .pointer (some ⟨w6.heap.size + 1 + 1, 0, none⟩) ∧ wz.cell? ⟨w6.heap.size + 1 + 1, 23, none⟩ = some (.int .u64 x) ∧ wz.cell? ⟨w6.heap.size, 0, none⟩ = some (.slice a ns ac) ∧ w6.heap.size + 1 + 1 < wz.heap.size ∧ Below w6.heap.size w6 wz)
  case first =>
    go_wp2_with (first | (go_at_call 25; refine (parser_any x _).mono ?_; rintro ee w8 ⟨rfl, h5, h6, h7⟩; have P5 := Lib.hid h5; have P6 := Lib.hid h6; have B5 := Lib.hid h7; clear h5 h6 h7))
    go_meet
    have p5 := P5.out
    have p6 := P6.out
    have b5 := B5.out
    refine ⟨by simp, by simpa using p5, (b5.cell (p := ⟨w6.heap.size, 0, none⟩) (by simp; omega)).trans (one_old w6 [.slice a ns ac, .int .i32 0] 68 _ 0 _ rfl), by simp at p6; omega, (((Below.refl w6.heap.size w6).alloc (Nat.le_refl _) _).alloc (by simp) _).trans (b5.mono (by simp; omega))⟩
  case rest =>
    obtain ⟨rfl, k0, k1, hlt, hbel⟩ := hcut
    obtain ⟨wz, rfl⟩ : ∃ wz : World, wz = wc := ⟨_, rfl⟩
    have HBZ : Hid (Below w.heap.size w wz) := Lib.hid (HB6.out.trans (hbel.mono HB6.out.size))
    clear hbel
    have hwl : w6.heap.size < wz.heap.size := by omega
    have KZ : Hid (∀ W, Below wz.heap.size wz W → W.cell? ⟨w6.heap.size + 1 + 1, 23, none⟩ = some (.int .u64 x) ∧ W.cell? ⟨w6.heap.size, 0, none⟩ = some (.slice a ns ac)) :=
      Lib.hid fun W hW => ⟨(hW.cell (p := ⟨_, _, none⟩) hlt).trans k0, (hW.cell (p := ⟨_, _, none⟩) hwl).trans k1⟩
    clear k0 k1
    go_upto_region 30 with (first
      | (go_at_call 32; refine (eshape_any ka pa n kc pn pc K Q _ hn hpn HK2.out HQ2.out (HK.out.below HBZ.out (Nat.le_refl _)) (HP.out.below HBZ.out (Nat.le_refl _))).mono ?_
         rintro ee w1 ⟨rfl, hr1, hr2, hb1⟩
         have HR1 := Lib.hid hr1
         have HR2 := Lib.hid hr2
         have HB1 := Lib.hid hb1
         have HW1 := Lib.hid (HBZ.out.trans (hb1.mono HBZ.out.size))
         clear hr1 hr2 hb1)
      | (go_at_call 33; refine (ebuild_any n kc wz.heap.size n (wz.heap.size + 1) n sn sc ka sa K (Ex.sh K (qOf pn Q) n).par (Ex.sh K (qOf pn Q) n).slot S _ hn hsn HK2.out HPAR.out (HK.out.below HW1.out (Nat.le_refl _)) HR1.out HR2.out (HS.out.below HW1.out (Nat.le_refl _))).mono ?_
         rintro ee w2 ⟨ev, rfl, hev, hq, hb2⟩
         rw [← HWANT.out] at hq
         have HEV := Lib.hid hev
         have HQ := Lib.hid hq
         have HB2 := Lib.hid hb2
         have HW2 := Lib.hid (HW1.out.trans (hb2.mono HW1.out.size))
         have HRR1 := Lib.hid (rowIs_below HR1.out hb2 (Nat.le_refl _))
         have HRR2 := Lib.hid (rowIs_below HR2.out hb2 (Nat.le_refl _))
         rcases hev with rfl | ⟨ty, nv, rfl⟩
         all_goals clear hq hb2)
      | (go_at_call 34; refine (emodel_any ka sa n kc wz.heap.size n (wz.heap.size + 1) n sn sc K (Ex.sh K (qOf pn Q) n).par (Ex.sh K (qOf pn Q) n).slot S _ hn hsn HK2.out HPAR.out ((HK.out.below HW2.out (Nat.le_refl _)).below ((Below.refl _ _).alloc (Nat.le_refl _) _) (Nat.le_refl _)) (HRR1.out.alloc _) (HRR2.out.alloc _) ((HS.out.below HW2.out (Nat.le_refl _)).below ((Below.refl _ _).alloc (Nat.le_refl _) _) (Nat.le_refl _))).mono ?_
         rw [← HWANT.out]
         rintro ee w3 ⟨rfl, hb3⟩
         have HB3 := Lib.hid hb3
         clear hb3))
    -- the two forms of the head
    · have H23 : Hid (Below w2.heap.size w2 w3) := Lib.hid (((Below.refl w2.heap.size w2).alloc (Nat.le_refl _) _).trans (HB3.out.mono (by simp)))
      have HZ3 : Hid (Below wz.heap.size wz w3) := Lib.hid ((HB1.out.trans (HB2.out.mono HB1.out.size)).trans (H23.out.mono (Nat.le_trans HB1.out.size HB2.out.size)))
      have e0 : w3.cell? ⟨w2.heap.size, 0, none⟩ = some (.nilIface) := (HB3.out.cell (p := ⟨w2.heap.size, 0, none⟩) (by simp)).trans (one_new w2 [.nilIface, .int .i32 0] 49 0 _ rfl)
      have e1 : w3.cell? ⟨w2.heap.size, 1, none⟩ = some (.int .i32 0) := (HB3.out.cell (p := ⟨w2.heap.size, 1, none⟩) (by simp)).trans (one_new w2 [.nilIface, .int .i32 0] 49 1 _ rfl)
      have HA4 : Hid (Below w3.heap.size w3 (w3.alloc (.cells #[.nilIface, .int .i32 0, .bool false] 88))) := Lib.hid ((Below.refl w3.heap.size w3).alloc (Nat.le_refl _) _)
      have KP : Hid (∀ W, Below (w3.alloc (.cells #[.nilIface, .int .i32 0, .bool false] 88)).heap.size (w3.alloc (.cells #[.nilIface, .int .i32 0, .bool false] 88)) W → W.cell? ⟨w3.heap.size, 0, none⟩ = some (.nilIface) ∧ W.cell? ⟨w3.heap.size, 1, none⟩ = some (.int .i32 0) ∧ W.cell? ⟨w6.heap.size, 0, none⟩ = some (.slice a ns ac) ∧ W.cell? ⟨w6.heap.size + 1 + 1, 23, none⟩ = some (.int .u64 x)) := by
        refine Lib.hid fun W hW => ?_
        have hz := KZ.out W (HZ3.out.trans ((HA4.out.trans (hW.mono HA4.out.size)).mono HZ3.out.size))
        exact ⟨(hW.cell (p := ⟨w3.heap.size, 0, none⟩) (by simp)).trans (one_new w3 [.nilIface, .int .i32 0, .bool false] 88 0 _ rfl), (hW.cell (p := ⟨w3.heap.size, 1, none⟩) (by simp)).trans (one_new w3 [.nilIface, .int .i32 0, .bool false] 88 1 _ rfl), hz.2, hz.1⟩
      have HQ4 : Hid (∀ W, Below (w3.alloc (.cells #[.nilIface, .int .i32 0, .bool false] 88)).heap.size (w3.alloc (.cells #[.nilIface, .int .i32 0, .bool false] 88)) W → Calls Try.prog 41 #[.agg #[.nilIface, .int .i32 0]] W fun e w' => e = .returned (.bool want) ∧ Below W.heap.size W w') := Lib.hid fun W hW => HQ.out W (H23.out.trans ((HA4.out.trans (hW.mono HA4.out.size)).mono H23.out.size))
      have HFOR : Hid (Calls Try.prog 31 #[.pointer (some ⟨w6.heap.size + 1 + 1, 0, none⟩), .agg #[.iface 86 (.pointer (some ⟨w3.heap.size, 0, none⟩)), .int .i32 0], .pointer (some ⟨w6.heap.size + 1, 0, none⟩)] (w3.alloc (.cells #[.nilIface, .int .i32 0, .bool false] 88)) fun e w' => e = .returned (.tuple #[]) ∧ Below (w3.alloc (.cells #[.nilIface, .int .i32 0, .bool false] 88)).heap.size (w3.alloc (.cells #[.nilIface, .int .i32 0, .bool false] 88)) w') := by
        refine Lib.hid (zfor_of _ _ _ 86 _ fun W hW => ?_)
        obtain ⟨m0, m1, m2, m3⟩ := KP.out W hW
        cases hb : (bits BinOp.and IntKind.u64 x 35184372088832 != 0) with
        | false => exact (for_clear _ _ x W 86 _ m3 hb).mono fun e w' h => ⟨h.1, hW.trans (h.2.mono hW.size)⟩
        | true =>
          have hwf : want = false := by
            rcases HX.out with h | h
            · rw [hb] at h; cases h
            · exact h
          refine (for_expr _ w3.heap.size _ x W (.nilIface) (.inl rfl) m3 hb m0 m1 fun W' hW' => ?_).mono fun e w' h => ⟨h.1, hW.trans (h.2.mono hW.size)⟩
          have := HQ4.out W' (hW.trans (hW'.mono hW.size))
          rw [hwf] at this
          exact this
      have HSAME : Hid (∀ W, Below (w3.alloc (.cells #[.nilIface, .int .i32 0, .bool false] 88)).heap.size (w3.alloc (.cells #[.nilIface, .int .i32 0, .bool false] 88)) W → Calls Try.prog 30 #[.slice a ns ac, .slice a ns ac, .int .i64 ns] W fun e w' => e = .returned (.bool true) ∧ Below (w3.alloc (.cells #[.nilIface, .int .i32 0, .bool false] 88)).heap.size (w3.alloc (.cells #[.nilIface, .int .i32 0, .bool false] 88)) w') :=
        Lib.hid fun W hW => (same_any a ns ac hns HA.out W).mono fun e w' h => ⟨h.1, hW.trans (h.2.mono hW.size)⟩
      have HHAS : Hid (∀ W, Below (w3.alloc (.cells #[.nilIface, .int .i32 0, .bool false] 88)).heap.size (w3.alloc (.cells #[.nilIface, .int .i32 0, .bool false] 88)) W → Calls Try.prog 35 #[.agg #[.nilIface, .int .i32 0]] W fun e w' => e = .returned (.bool want) ∧ Below (w3.alloc (.cells #[.nilIface, .int .i32 0, .bool false] 88)).heap.size (w3.alloc (.cells #[.nilIface, .int .i32 0, .bool false] 88)) w') :=
        Lib.hid fun W hW => (ezhas_of W (.nilIface) want (.inl rfl) fun W' hW' => HQ4.out W' (hW.trans (hW'.mono hW.size))).mono fun e w' h => ⟨h.1, hW.trans (h.2.mono hW.size)⟩
      have HFIN : Hid (∀ W, Below (w3.alloc (.cells #[.nilIface, .int .i32 0, .bool false] 88)).heap.size (w3.alloc (.cells #[.nilIface, .int .i32 0, .bool false] 88)) W → Below w.heap.size w W) := Lib.hid fun W hW => HBZ.out.trans ((HZ3.out.trans ((HA4.out.trans (hW.mono HA4.out.size)).mono HZ3.out.size)).mono HBZ.out.size)
      go_wp2_with (first
        | (go_at_call 31; refine HFOR.out.mono ?_; rintro ee w7 ⟨rfl, h7⟩; obtain ⟨m0, m1, m2, m3⟩ := KP.out _ h7; have B7 := Lib.hid h7; clear h7)
        | (go_at_call 30; refine (HSAME.out _ B7.out).mono ?_; rintro ee w8 ⟨rfl, h8⟩; clear m0 m1 m2 m3; obtain ⟨m0, m1, m2, m3⟩ := KP.out _ h8; have B8 := Lib.hid h8; clear h8)
        | (go_at_call 35; refine (HHAS.out _ B8.out).mono ?_; rintro ee w9 ⟨rfl, h9⟩; have B9 := Lib.hid h9; clear h9))
      go_ret
      exact ⟨by simp, HFIN.out _ B9.out⟩
    · have H23 : Hid (Below w2.heap.size w2 w3) := Lib.hid (((Below.refl w2.heap.size w2).alloc (Nat.le_refl _) _).trans (HB3.out.mono (by simp)))
      have HZ3 : Hid (Below wz.heap.size wz w3) := Lib.hid ((HB1.out.trans (HB2.out.mono HB1.out.size)).trans (H23.out.mono (Nat.le_trans HB1.out.size HB2.out.size)))
      have e0 : w3.cell? ⟨w2.heap.size, 0, none⟩ = some (.iface ty nv) := (HB3.out.cell (p := ⟨w2.heap.size, 0, none⟩) (by simp)).trans (one_new w2 [.iface ty nv, .int .i32 0] 49 0 _ rfl)
      have e1 : w3.cell? ⟨w2.heap.size, 1, none⟩ = some (.int .i32 0) := (HB3.out.cell (p := ⟨w2.heap.size, 1, none⟩) (by simp)).trans (one_new w2 [.iface ty nv, .int .i32 0] 49 1 _ rfl)
      have HA4 : Hid (Below w3.heap.size w3 (w3.alloc (.cells #[.iface ty nv, .int .i32 0, .bool false] 88))) := Lib.hid ((Below.refl w3.heap.size w3).alloc (Nat.le_refl _) _)
      have KP : Hid (∀ W, Below (w3.alloc (.cells #[.iface ty nv, .int .i32 0, .bool false] 88)).heap.size (w3.alloc (.cells #[.iface ty nv, .int .i32 0, .bool false] 88)) W → W.cell? ⟨w3.heap.size, 0, none⟩ = some (.iface ty nv) ∧ W.cell? ⟨w3.heap.size, 1, none⟩ = some (.int .i32 0) ∧ W.cell? ⟨w6.heap.size, 0, none⟩ = some (.slice a ns ac) ∧ W.cell? ⟨w6.heap.size + 1 + 1, 23, none⟩ = some (.int .u64 x)) := by
        refine Lib.hid fun W hW => ?_
        have hz := KZ.out W (HZ3.out.trans ((HA4.out.trans (hW.mono HA4.out.size)).mono HZ3.out.size))
        exact ⟨(hW.cell (p := ⟨w3.heap.size, 0, none⟩) (by simp)).trans (one_new w3 [.iface ty nv, .int .i32 0, .bool false] 88 0 _ rfl), (hW.cell (p := ⟨w3.heap.size, 1, none⟩) (by simp)).trans (one_new w3 [.iface ty nv, .int .i32 0, .bool false] 88 1 _ rfl), hz.2, hz.1⟩
      have HQ4 : Hid (∀ W, Below (w3.alloc (.cells #[.iface ty nv, .int .i32 0, .bool false] 88)).heap.size (w3.alloc (.cells #[.iface ty nv, .int .i32 0, .bool false] 88)) W → Calls Try.prog 41 #[.agg #[.iface ty nv, .int .i32 0]] W fun e w' => e = .returned (.bool want) ∧ Below W.heap.size W w') := Lib.hid fun W hW => HQ.out W (H23.out.trans ((HA4.out.trans (hW.mono HA4.out.size)).mono H23.out.size))
      have HFOR : Hid (Calls Try.prog 31 #[.pointer (some ⟨w6.heap.size + 1 + 1, 0, none⟩), .agg #[.iface 86 (.pointer (some ⟨w3.heap.size, 0, none⟩)), .int .i32 0], .pointer (some ⟨w6.heap.size + 1, 0, none⟩)] (w3.alloc (.cells #[.iface ty nv, .int .i32 0, .bool false] 88)) fun e w' => e = .returned (.tuple #[]) ∧ Below (w3.alloc (.cells #[.iface ty nv, .int .i32 0, .bool false] 88)).heap.size (w3.alloc (.cells #[.iface ty nv, .int .i32 0, .bool false] 88)) w') := by
        refine Lib.hid (zfor_of _ _ _ 86 _ fun W hW => ?_)
        obtain ⟨m0, m1, m2, m3⟩ := KP.out W hW
        cases hb : (bits BinOp.and IntKind.u64 x 35184372088832 != 0) with
        | false => exact (for_clear _ _ x W 86 _ m3 hb).mono fun e w' h => ⟨h.1, hW.trans (h.2.mono hW.size)⟩
        | true =>
          have hwf : want = false := by
            rcases HX.out with h | h
            · rw [hb] at h; cases h
            · exact h
          refine (for_expr _ w3.heap.size _ x W (.iface ty nv) (.inr ⟨ty, nv, rfl⟩) m3 hb m0 m1 fun W' hW' => ?_).mono fun e w' h => ⟨h.1, hW.trans (h.2.mono hW.size)⟩
          have := HQ4.out W' (hW.trans (hW'.mono hW.size))
          rw [hwf] at this
          exact this
      have HSAME : Hid (∀ W, Below (w3.alloc (.cells #[.iface ty nv, .int .i32 0, .bool false] 88)).heap.size (w3.alloc (.cells #[.iface ty nv, .int .i32 0, .bool false] 88)) W → Calls Try.prog 30 #[.slice a ns ac, .slice a ns ac, .int .i64 ns] W fun e w' => e = .returned (.bool true) ∧ Below (w3.alloc (.cells #[.iface ty nv, .int .i32 0, .bool false] 88)).heap.size (w3.alloc (.cells #[.iface ty nv, .int .i32 0, .bool false] 88)) w') :=
        Lib.hid fun W hW => (same_any a ns ac hns HA.out W).mono fun e w' h => ⟨h.1, hW.trans (h.2.mono hW.size)⟩
      have HHAS : Hid (∀ W, Below (w3.alloc (.cells #[.iface ty nv, .int .i32 0, .bool false] 88)).heap.size (w3.alloc (.cells #[.iface ty nv, .int .i32 0, .bool false] 88)) W → Calls Try.prog 35 #[.agg #[.iface ty nv, .int .i32 0]] W fun e w' => e = .returned (.bool want) ∧ Below (w3.alloc (.cells #[.iface ty nv, .int .i32 0, .bool false] 88)).heap.size (w3.alloc (.cells #[.iface ty nv, .int .i32 0, .bool false] 88)) w') :=
        Lib.hid fun W hW => (ezhas_of W (.iface ty nv) want (.inr ⟨ty, nv, rfl⟩) fun W' hW' => HQ4.out W' (hW.trans (hW'.mono hW.size))).mono fun e w' h => ⟨h.1, hW.trans (h.2.mono hW.size)⟩
      have HFIN : Hid (∀ W, Below (w3.alloc (.cells #[.iface ty nv, .int .i32 0, .bool false] 88)).heap.size (w3.alloc (.cells #[.iface ty nv, .int .i32 0, .bool false] 88)) W → Below w.heap.size w W) := Lib.hid fun W hW => HBZ.out.trans ((HZ3.out.trans ((HA4.out.trans (hW.mono HA4.out.size)).mono HZ3.out.size)).mono HBZ.out.size)
      go_wp2_with (first
        | (go_at_call 31; refine HFOR.out.mono ?_; rintro ee w7 ⟨rfl, h7⟩; obtain ⟨m0, m1, m2, m3⟩ := KP.out _ h7; have B7 := Lib.hid h7; clear h7)
        | (go_at_call 30; refine (HSAME.out _ B7.out).mono ?_; rintro ee w8 ⟨rfl, h8⟩; clear m0 m1 m2 m3; obtain ⟨m0, m1, m2, m3⟩ := KP.out _ h8; have B8 := Lib.hid h8; clear h8)
        | (go_at_call 35; refine (HHAS.out _ B8.out).mono ?_; rintro ee w9 ⟨rfl, h9⟩; have B9 := Lib.hid h9; clear h9))
      go_ret
      exact ⟨by simp, HFIN.out _ B9.out⟩
end
end Go.Proofs.Ytoeaockleddngaa
