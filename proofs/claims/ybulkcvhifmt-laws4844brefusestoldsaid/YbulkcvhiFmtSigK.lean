/-
  Seat b4844aF: the parts of a KeyInfo.
-/
import Derived.Test.YbulkcvhiFmtSigB
namespace Go.Proofs.YbulkcvhiFmt
open Go.RowKit Go.Extern.Stop Go.Stop Go.Extern
set_option linter.unusedVariables false

inductive KiD where
  | data (b : Nat) (ks : List Kid)
  | value (b rsa m x : Nat)
  | name (b : Nat)
def KiD.b : KiD → Nat
  | .data b _ => b
  | .value b _ _ _ => b
  | .name b => b
def KiD.nd : KiD → Nd
  | .data _ _ => xdNd
  | .value _ _ _ _ => kvNd
  | .name _ => knNd
def KiD.kids : KiD → List Nat
  | .data _ ks => kidsOf ks
  | .value _ rsa _ _ => [rsa]
  | .name _ => []
def certsIn (ks : List Kid) : List Nat := (ks.filter fun x => isB x.2.1 sXC).map (·.1)
def KiD.certs : KiD → List Nat
  | .data _ ks => certsIn ks
  | _ => []
def KiD.mo (p : Value) : KiD → Value
  | .value _ _ m _ => .pointer (some ⟨m, 0, none⟩)
  | _ => p
def KiD.ex (p : Value) : KiD → Value
  | .value _ _ _ x => .pointer (some ⟨x, 0, none⟩)
  | _ => p
def kiMo (l : List KiD) : Value := l.foldl (fun p k => k.mo p) (.pointer none)
def kiEx (l : List KiD) : Value := l.foldl (fun p k => k.ex p) (.pointer none)
def kiCerts (l : List KiD) : List Nat := l.flatMap KiD.certs
theorem take_step {α : Type} {l : List α} {k : Nat} (h : k < l.length) : l.take (k + 1) = l.take k ++ [l[k]] := List.take_succ_eq_append_getElem h
theorem kiMo_snoc (l : List KiD) (a : KiD) : kiMo (l ++ [a]) = a.mo (kiMo l) := by simp [kiMo]
theorem kiEx_snoc (l : List KiD) (a : KiD) : kiEx (l ++ [a]) = a.ex (kiEx l) := by simp [kiEx]
theorem kiCerts_snoc (l : List KiD) (a : KiD) : kiCerts (l ++ [a]) = kiCerts l ++ a.certs := by simp [kiCerts]
theorem certsIn_snoc_yes (l : List Kid) (a : Kid) (hq : isB a.2.1 sXC = true) : certsIn (l ++ [a]) = certsIn l ++ [a.1] := by simp [certsIn, hq]
theorem certsIn_snoc_no (l : List Kid) (a : Kid) (hq : isB a.2.1 sXC = false) : certsIn (l ++ [a]) = certsIn l := by simp [certsIn, hq]
theorem kiMo_step {l : List KiD} {k : Nat} (h : k < l.length) : kiMo (l.take (k + 1)) = (l[k]).mo (kiMo (l.take k)) := by rw [take_step h, kiMo_snoc]
theorem kiEx_step {l : List KiD} {k : Nat} (h : k < l.length) : kiEx (l.take (k + 1)) = (l[k]).ex (kiEx (l.take k)) := by rw [take_step h, kiEx_snoc]
theorem kiCerts_step {l : List KiD} {k : Nat} (h : k < l.length) : kiCerts (l.take (k + 1)) = kiCerts (l.take k) ++ (l[k]).certs := by rw [take_step h, kiCerts_snoc]
theorem certsIn_yes {ks : List Kid} {j : Nat} (h : j < ks.length) (hq : isB (ks[j]).2.1 sXC = true) : certsIn (ks.take (j + 1)) = certsIn (ks.take j) ++ [(ks[j]).1] := by rw [take_step h, certsIn_snoc_yes _ _ hq]
theorem certsIn_no {ks : List Kid} {j : Nat} (h : j < ks.length) (hq : isB (ks[j]).2.1 sXC = false) : certsIn (ks.take (j + 1)) = certsIn (ks.take j) := by rw [take_step h, certsIn_snoc_no _ _ hq]

structure KiAt (w : World) (k : KiD) : Prop where
  root : ElAt w k.b k.nd k.kids
  sub : match k with
    | .data _ ks => AllAt w ks ∧ ks.length ≤ 4096
    | .value _ rsa m x => ElAt w rsa rkNd [m, x] ∧ ElAt w m moNd [] ∧ ElAt w x exNd []
    | .name _ => True
theorem KiAt.keptC {w w' : World} {k : KiD} (h : KiAt w k) (hc : Chg [] w w') : KiAt w' k := by
  refine ⟨h.root.keptC hc, ?_⟩
  cases k with
  | data b ks => exact ⟨h.sub.1.keptC hc, h.sub.2⟩
  | value b rsa m x => exact ⟨h.sub.1.keptC hc, h.sub.2.1.keptC hc, h.sub.2.2.keptC hc⟩
  | name b => trivial

theorem isB_xd_xd : isB xdNd sXD = true := by kernel_rfl
theorem isB_kv_xd : isB kvNd sXD = false := by kernel_rfl
theorem isB_kn_xd : isB knNd sXD = false := by kernel_rfl
theorem isB_kv_kv : isB kvNd sKV = true := by kernel_rfl
theorem isB_kn_kv : isB knNd sKV = false := by kernel_rfl
theorem isB_rk_rk : isB rkNd sRK = true := by kernel_rfl
theorem isB_mo_mo : isB moNd sMo = true := by kernel_rfl
theorem isB_ex_mo : isB exNd sMo = false := by kernel_rfl
theorem isB_ex_ex : isB exNd sEx = true := by kernel_rfl
theorem isB_xc_xc : isB (xcNd NS) sXC = true := by kernel_rfl
theorem isB_xo_xc : isB (xcNd cOther) sXC = false := by kernel_rfl
theorem isB_xs_xc : isB xsNd sXC = false := by kernel_rfl

def refVs (obj : Nat) (rs : List RefD) : List Value := rs.flatMap fun r => [.string r.uri, .pointer (r.tp obj), .pointer (some ⟨r.dv, 0, none⟩)]
theorem refVs_snoc (obj : Nat) (l : List RefD) (r : RefD) : refVs obj (l ++ [r]) = refVs obj l ++ [.string r.uri, .pointer (r.tp obj), .pointer (some ⟨r.dv, 0, none⟩)] := by simp [refVs]
theorem refVs_step {obj : Nat} {rs : List RefD} {k : Nat} (h : k < rs.length) : refVs obj (rs.take (k + 1)) = refVs obj (rs.take k) ++ [.string (rs[k]).uri, .pointer ((rs[k]).tp obj), .pointer (some ⟨(rs[k]).dv, 0, none⟩)] := by rw [take_step h, refVs_snoc]

end Go.Proofs.YbulkcvhiFmt
