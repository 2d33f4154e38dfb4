/-
  Seat b4844aF: two rows of the same pointers.
-/
import Derived.Test.YbulkcvhiFmtSigM
import Derived.LaidEqlPtr
namespace Go.Proofs.YbulkcvhiFmt
open Go.RowKit Go.Extern.Stop Go.Stop Go.Extern
set_option linter.unusedVariables false

theorem eq24 (p : Option Addr) (wx : World) : (binOp .eql 24 (.pointer p) (.pointer p)).run Ybaf.prog wx = .ok (.bool true) wx := by
  have hu : Ybaf.prog.underlying 24 = some (.pointer 59) := by kernel_rfl
  cases p with
  | none =>
    have hu' : Ybaf.prog.underlying 24 = some (.pointer (Ybaf.prog.pointee 24)) := by kernel_rfl
    exact run_eql_pointer_nil wx 24 none hu'
  | some a =>
    obtain ⟨j, hj⟩ : ∃ j, Ybaf.prog.info? 59 = some j := by
      have : (Ybaf.prog.info? 59).isSome = true := by kernel_rfl
      exact Option.isSome_iff_exists.1 this
    exact run_eql_ptr_same wx a hu hj
theorem neq24 (p : Option Addr) (wx : World) : (binOp .neq 24 (.pointer p) (.pointer p)).run Ybaf.prog wx = .ok (.bool false) wx := by
  have h := eq24 p wx
  simp only [binOp] at h ⊢
  cases he : (Op.equal 24 (.pointer p) (.pointer p)).run Ybaf.prog wx with
  | ok b w' =>
    simp [he] at h ⊢
    obtain ⟨rfl, rfl⟩ := h
    simp
  | _ => simp [he] at h

set_option maxHeartbeats 1600000 in
theorem eqp_same (w : World) (S S' : Nat) (v v' : Value) (L : List Nat) (h : w.ownsRow S 24 1 v L.length (ptrs L)) (h' : w.ownsRow S' 24 1 v' L.length (ptrs L)) (hl : L.length ≤ 4096) :
    Calls Ybaf.prog 8 #[v, v'] w fun e w' => e = .returned (.bool true) ∧ ∃ m, w' = w.drewN m := by
  have hpl : (ptrs L).length = L.length := by simp [ptrs]
  rw [← hpl] at h h'
  obtain ⟨a, c, rfl, hcells⟩ := own_shape h
  obtain ⟨a', c', rfl, hcells'⟩ := own_shape h'
  rw [hpl] at hcells hcells'
  rw [hpl]
  have HCE : Hid (0 < L.length → ∃ g, a = some ⟨g, 0, none⟩ ∧ ∀ j u, (ptrs L)[j]? = some u → w.cell? ⟨g, j, none⟩ = some u) := hcells
  have HCE' : Hid (0 < L.length → ∃ g, a' = some ⟨g, 0, none⟩ ∧ ∀ j u, (ptrs L)[j]? = some u → w.cell? ⟨g, j, none⟩ = some u) := hcells'
  clear hcells hcells' h h' hpl
  have hq24 := neq24
  go_enter Ybaf.func8, Ybaf.ntmps8
  go_wp2
  go_loopw [13] (fun i wr => ∃ (k : Nat), k ≤ L.length ∧ i = .int .i64 k ∧ ∃ m, wr = w.drewN m) (fun i _ => L.length - (intOf i).toNat)
  case atStart => exact ⟨0, Nat.zero_le _, rfl, 0, rfl⟩
  case round =>
    obtain ⟨k, hkk, rfl, m, hwm⟩ := hrel
    have HC : Hid (Chg [] w wr) := by rw [hwm]; exact (Chg.refl _ _).drewN m
    have HWM : Hid (wr = w.drewN m) := hwm
    clear hwm
    by_cases hlt : k < L.length
    · have hki : (k : Int) < (L.length : Int) := by omega
      obtain ⟨g, rfl, hg⟩ := HCE.out (by omega)
      obtain ⟨g', rfl, hg'⟩ := HCE'.out (by omega)
      have hx : (ptrs L)[k]? = some (.pointer (some ⟨L[k], 0, none⟩)) := by simp [ptrs, hlt]
      have hc1 := HC.out.cell (hg k _ hx) (by simp)
      have hc2 := HC.out.cell (hg' k _ hx) (by simp)
      clear hg hg' hx
      generalize L[k] = y at *
      go_wp2
      go_quiet (fail)
      go_wp2
      go_roundw
      case rel => exact ⟨k + 1, by omega, by go_num, by rw [HWM.out]; exact ⟨_, World.drewN_drewN _ _ _⟩⟩
      case measure => simp [intOf]; omega
    · have hki : ¬ (k : Int) < (L.length : Int) := by omega
      have hki' : (L.length : Int) ≤ (k : Int) := by omega
      go_wp2
      go_ret
      exact ⟨rfl, m, HWM.out⟩

end Go.Proofs.YbulkcvhiFmt
