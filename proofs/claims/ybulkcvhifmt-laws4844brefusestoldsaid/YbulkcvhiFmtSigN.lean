/-
  Seat b4844aF: the names of a signature's elements.
-/
import Derived.Test.YbulkcvhiFmtSig0
namespace Go.Proofs.YbulkcvhiFmt
open Go.RowKit Go.Extern.Stop Go.Stop Go.Extern
set_option linter.unusedVariables false

abbrev sSig : ByteArray := ⟨#[83, 105, 103, 110, 97, 116, 117, 114, 101]⟩
abbrev sSI : ByteArray := ⟨#[83, 105, 103, 110, 101, 100, 73, 110, 102, 111]⟩
abbrev sSV : ByteArray := ⟨#[83, 105, 103, 110, 97, 116, 117, 114, 101, 86, 97, 108, 117, 101]⟩
abbrev sKI : ByteArray := ⟨#[75, 101, 121, 73, 110, 102, 111]⟩
abbrev sOb : ByteArray := ⟨#[79, 98, 106, 101, 99, 116]⟩
abbrev sCM : ByteArray := ⟨#[67, 97, 110, 111, 110, 105, 99, 97, 108, 105, 122, 97, 116, 105, 111, 110, 77, 101, 116, 104, 111, 100]⟩
abbrev sSM : ByteArray := ⟨#[83, 105, 103, 110, 97, 116, 117, 114, 101, 77, 101, 116, 104, 111, 100]⟩
abbrev sXD : ByteArray := ⟨#[88, 53, 48, 57, 68, 97, 116, 97]⟩
abbrev sXC : ByteArray := ⟨#[88, 53, 48, 57, 67, 101, 114, 116, 105, 102, 105, 99, 97, 116, 101]⟩
abbrev sXS : ByteArray := ⟨#[88, 53, 48, 57, 83, 117, 98, 106, 101, 99, 116, 78, 97, 109, 101]⟩
abbrev sKV : ByteArray := ⟨#[75, 101, 121, 86, 97, 108, 117, 101]⟩
abbrev sRK : ByteArray := ⟨#[82, 83, 65, 75, 101, 121, 86, 97, 108, 117, 101]⟩
abbrev sMo : ByteArray := ⟨#[77, 111, 100, 117, 108, 117, 115]⟩
abbrev sEx : ByteArray := ⟨#[69, 120, 112, 111, 110, 101, 110, 116]⟩
abbrev sKN : ByteArray := ⟨#[75, 101, 121, 78, 97, 109, 101]⟩
abbrev sIN : ByteArray := ⟨#[73, 110, 99, 108, 117, 115, 105, 118, 101, 78, 97, 109, 101, 115, 112, 97, 99, 101, 115]⟩
abbrev sId : ByteArray := ⟨#[73, 100]⟩
abbrev cOther : ByteArray := ⟨#[117, 114, 110, 58, 111, 116, 104, 101, 114]⟩
abbrev sNoX : ByteArray := ⟨#[116, 104, 101, 32, 75, 101, 121, 73, 110, 102, 111, 32, 104, 111, 108, 100, 115, 32, 110, 111, 32, 88, 53, 48, 57, 67, 101, 114, 116, 105, 102, 105, 99, 97, 116, 101]⟩

def sigNd (ns : ByteArray) : Nd := ⟨sSig, none, ns⟩
def siNd : Nd := ⟨sSI, none, NS⟩
def svNd : Nd := ⟨sSV, none, NS⟩
def kiNd : Nd := ⟨sKI, none, NS⟩
def obNd : Nd := ⟨sOb, some (sId, sObj), NS⟩
def cmNd (a : ByteArray) : Nd := ⟨sCM, some (ALG, a), NS⟩
def smNd (a : ByteArray) : Nd := ⟨sSM, some (ALG, a), NS⟩
def xdNd : Nd := ⟨sXD, none, NS⟩
def xcNd (ns : ByteArray) : Nd := ⟨sXC, none, ns⟩
def xsNd : Nd := ⟨sXS, none, NS⟩
def kvNd : Nd := ⟨sKV, none, NS⟩
def rkNd : Nd := ⟨sRK, none, NS⟩
def moNd : Nd := ⟨sMo, none, NS⟩
def exNd : Nd := ⟨sEx, none, NS⟩
def knNd : Nd := ⟨sKN, none, NS⟩
def inNd : Nd := ⟨sIN, none, NS⟩

theorem neSI : (sSI.toList == []) = false := by kernel_rfl
theorem neSV : (sSV.toList == []) = false := by kernel_rfl
theorem neKI : (sKI.toList == []) = false := by kernel_rfl
theorem neCM : (sCM.toList == []) = false := by kernel_rfl
theorem neSM : (sSM.toList == []) = false := by kernel_rfl
theorem neRef : (sRef.toList == []) = false := by kernel_rfl
theorem neSig : ∀ (j : Nat) (x : ByteArray), [sSI, sSV, sKI][j]? = some x → (x.toList == []) = false := by
  intro j x hj
  match j, hj with
  | 0, hj => simp at hj; subst hj; exact neSI
  | 1, hj => simp at hj; subst hj; exact neSV
  | 2, hj => simp at hj; subst hj; exact neKI
theorem neInfo : ∀ (j : Nat) (x : ByteArray), [sCM, sSM, sRef][j]? = some x → (x.toList == []) = false := by
  intro j x hj
  match j, hj with
  | 0, hj => simp at hj; subst hj; exact neCM
  | 1, hj => simp at hj; subst hj; exact neSM
  | 2, hj => simp at hj; subst hj; exact neRef
theorem joinSig : (Lib.join ([sSI, sSV, sKI].map (·.data.toList)) [44, 32]).length ≤ 140737488355328 := of_decide_eq_true (by kernel_rfl)
theorem joinInfo : (Lib.join ([sCM, sSM, sRef].map (·.data.toList)) [44, 32]).length ≤ 140737488355328 := of_decide_eq_true (by kernel_rfl)
theorem cells3 {w : World} {cb : Nat} {a b c : ByteArray} (h : w.heap[cb]? = some (.cells #[.string a, .string b, .string c] 9 (0, 0))) : ∀ j x, [a, b, c][j]? = some x → w.cell? ⟨cb, 0 + j, none⟩ = some (.string x) := by
  intro j x hj
  rw [Nat.zero_add]
  match j, hj with
  | 0, hj => simp at hj; subst hj; simp [World.cell?, h]
  | 1, hj => simp at hj; subst hj; simp [World.cell?, h]
  | 2, hj => simp at hj; subst hj; simp [World.cell?, h]

/-- The kids of a Signature. -/
def sigKs (si sv ki obj : Nat) (siK kiK : List Nat) : List Kid := [(si, siNd, siK), (sv, svNd, []), (ki, kiNd, kiK), (obj, obNd, [])]
theorem expK_sig (si sv ki obj : Nat) (siK kiK : List Nat) : expK (sigNd NS) sSig [sSI, sSV, sKI] sOb (sigKs si sv ki obj siK kiK) = true := by kernel_rfl
theorem expK_sig_other (ks : List Kid) : expK (sigNd cOther) sSig [sSI, sSV, sKI] sOb ks = false := by
  have : isB (sigNd cOther) sSig = false := by kernel_rfl
  rw [expK, expB, this, Bool.false_and]
theorem expK_sig_short (si ki obj : Nat) (siK kiK : List Nat) : expK (sigNd NS) sSig [sSI, sSV, sKI] sOb [(si, siNd, siK), (ki, kiNd, kiK), (obj, obNd, [])] = false := by kernel_rfl

def infoKs (cm sm : Nat) (a b : ByteArray) (cmK : List Nat) (rs : List RefD) : List Kid := (cm, cmNd a, cmK) :: (sm, smNd b, []) :: rs.map fun r => (r.rb, refNd r.uri, r.kids)

theorem isB_si : isB siNd sSI = true := by kernel_rfl
theorem isB_cm (a : ByteArray) : isB (cmNd a) sCM = true := by kernel_rfl
theorem isB_sm (a : ByteArray) : isB (smNd a) sSM = true := by kernel_rfl
theorem isB_ref (a : ByteArray) : isB (refNd a) sRef = true := by kernel_rfl

theorem expK_info (cm sm : Nat) (a b : ByteArray) (cmK : List Nat) (rs : List RefD) : expK siNd sSI [sCM, sSM, sRef] sRef (infoKs cm sm a b cmK rs) = !rs.isEmpty := by
  have hl : (kidsOf (infoKs cm sm a b cmK rs)).length = rs.length + 2 := by simp [kidsOf, infoKs]
  rw [expK, expB, isB_si, Bool.true_and, hl]
  have hall : (List.range (rs.length + 2)).all (okAt [sCM, sSM, sRef] sRef (ndOf (infoKs cm sm a b cmK rs))) = true := by
    apply all_range_true
    intro j hj
    match j, hj with
    | 0, _ =>
      show (!(sCM.toList == []) && isB (cmNd a) sCM) = true
      rw [neCM, isB_cm]; rfl
    | 1, _ =>
      show (!(sSM.toList == []) && isB (smNd b) sSM) = true
      rw [neSM, isB_sm]; rfl
    | k + 2, hj =>
      have hw : wantOf [sCM, sSM, sRef] sRef (k + 2) = sRef := by
        match k with
        | 0 => rfl
        | n + 1 => rfl
      have hk : k < rs.length := by omega
      have hn : ndOf (infoKs cm sm a b cmK rs) (k + 2) = refNd rs[k].uri := by simp [ndOf, infoKs, hk]
      rw [okAt, hw, hn, neRef, isB_ref]; rfl
  rw [hall, Bool.true_and]
  cases rs with
  | nil => rfl
  | cons r rs => simp

theorem own_four {w : World} {S x y z u : Nat} {v : Value} (h : w.ownsRow S 24 1 v ([x, y, z, u] : List Nat).length (ptrs [x, y, z, u])) : ∃ g c cur, v = .slice (some ⟨g, 0, none⟩) 4 c ∧ 4 ≤ c ∧ w.heap[g]? = some (.cells cur 24 (0, 0)) ∧ S ≤ g ∧ w.cell? ⟨g, 0, none⟩ = some (.pointer (some ⟨x, 0, none⟩)) ∧ w.cell? ⟨g, 1, none⟩ = some (.pointer (some ⟨y, 0, none⟩)) ∧ w.cell? ⟨g, 2, none⟩ = some (.pointer (some ⟨z, 0, none⟩)) := by
  have hc := fun g hg j u => h.cells (g := g) hg j u
  rcases h.2 with ⟨_, hn⟩ | ⟨g, cap, cur, rfl, hS, hg, hle, _⟩
  · simp at hn
  · have h0 := hc g rfl 0 _ rfl
    have h1 := hc g rfl 1 _ rfl
    have h2 := hc g rfl 2 _ rfl
    rw [Go.WideShapes.add_plain] at h0 h1 h2
    exact ⟨g, cap, cur, rfl, hle, hg, hS, h0, h1, h2⟩

end Go.Proofs.YbulkcvhiFmt
