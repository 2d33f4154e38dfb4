/-
  Seat b4844aF: one element of the Signature bears the Id.
-/
import Derived.Test.YbulkcvhiFmtTree
namespace Go.Proofs.YbulkcvhiFmt
open Go.RowKit Go.Extern.Stop Go.Stop Go.Extern
set_option linter.unusedVariables false

theorem Hits.node0 {w : World} {id : ByteArray} {n b : Nat} {d : Nd} {kids : List Nat} (h : ElAt w b d kids) (hq : hitB d id = false) (hl : kids.length ≤ 4096) (hk : ∀ k, k ∈ kids → Hits w id n k []) : Hits w id (n + 1) b [] := by
  refine ⟨d, kids, kids.map (fun _ => []), h, hl, by simp, fun i k hs hi hh => ?_, ?_⟩
  · have : hs = [] := by
      simp only [List.getElem?_map, Option.map_eq_some_iff] at hh
      obtain ⟨_, _, rfl⟩ := hh
      rfl
    subst this
    exact hk k (List.mem_of_getElem? hi)
  · rw [ownHit_no hq]
    have : ∀ l : List Nat, (l.map (fun _ => ([] : List Nat))).flatten = [] := by
      intro l
      induction l with
      | nil => rfl
      | cons a l ih => simp
    simp [this]
theorem Hits.leaf {w : World} {id : ByteArray} {n b : Nat} {d : Nd} (h : ElAt w b d []) (hq : hitB d id = false) : Hits w id (n + 1) b [] := Hits.node0 h hq (by simp) (fun k hk => by cases hk)

theorem hit_none (nm sp : ByteArray) : hitB ⟨nm, none, sp⟩ sObj = false := rfl
theorem hit_alg (nm uri sp : ByteArray) : hitB ⟨nm, some (ALG, uri), sp⟩ sObj = false := by
  have h0 : (ALG.toList == (nmAt 0).toList) = false := by kernel_rfl
  have h1 : (ALG.toList == (nmAt 1).toList) = false := by kernel_rfl
  have h2 : (ALG.toList == (nmAt 2).toList) = false := by kernel_rfl
  simp [hitB, hitAt, attrOf, h0, h1, h2]
theorem hit_uri (nm uri sp : ByteArray) : hitB ⟨nm, some (sURI, uri), sp⟩ sObj = false := by
  have h : ∀ j, (sURI.toList == (nmAt j).toList) = false → attrOf ⟨nm, some (sURI, uri), sp⟩ (nmAt j) = none := fun j hj => by
    show (if (sURI.toList == (nmAt j).toList) = true then some uri else none) = none
    rw [hj]; rfl
  have h0 := h 0 (by kernel_rfl)
  have h1 := h 1 (by kernel_rfl)
  have h2 := h 2 (by kernel_rfl)
  rw [hitB, hitAt, hitAt, hitAt, h0, h1, h2]
  rfl
theorem hit_obj : hitB obNd sObj = true := by kernel_rfl

theorem RefAt.hits {w : World} {r : RefD} (h : RefAt w r) (n : Nat) : Hits w sObj (n + 3) r.rb [] := by
  refine Hits.node0 h.root (hit_uri _ _ _) ?_ (fun k hk => ?_)
  · unfold RefD.kids
    cases r.trans <;> simp
  · have hdm : Hits w sObj (n + 2) r.dm [] := Hits.leaf h.dm (hit_alg _ _ _)
    have hdv : Hits w sObj (n + 2) r.dv [] := Hits.leaf h.dv (hit_none _ _)
    unfold RefD.kids at hk
    cases ht : r.trans with
    | false =>
      rw [ht] at hk
      simp only [List.mem_cons, List.not_mem_nil, or_false] at hk
      rcases hk with rfl | rfl
      · exact hdm
      · exact hdv
    | true =>
      rw [ht] at hk
      simp only [List.mem_cons, List.not_mem_nil, or_false] at hk
      rcases hk with rfl | rfl | rfl
      · refine Hits.node0 (h.ts ht).1 (hit_none _ _) (by simp) (fun k hk => ?_)
        obtain rfl : k = r.tf := by simpa using hk
        exact Hits.leaf (h.ts ht).2 (hit_alg _ _ _)
      · exact hdm
      · exact hdv

/-- A KeyInfo's part, its data without kids of their own and without attributes. -/
def KiD.plain : KiD → Prop
  | .data _ ks => ∀ x, x ∈ ks → x.2.2 = [] ∧ x.2.1.attr = none
  | _ => True
theorem KiAt.hits {w : World} {k : KiD} (h : KiAt w k) (hp : k.plain) (n : Nat) : Hits w sObj (n + 3) k.b [] := by
  cases k with
  | name b => exact Hits.leaf (n := n + 2) h.root (hit_none _ _)
  | value b rsa m x =>
    refine Hits.node0 (n := n + 2) h.root (hit_none _ _) (by simp [KiD.kids]) (fun k hk => ?_)
    obtain rfl : k = rsa := by simpa [KiD.kids] using hk
    refine Hits.node0 h.sub.1 (hit_none _ _) (by simp) (fun k hk => ?_)
    simp only [List.mem_cons, List.not_mem_nil, or_false] at hk
    rcases hk with rfl | rfl
    · exact Hits.leaf h.sub.2.1 (hit_none _ _)
    · exact Hits.leaf h.sub.2.2 (hit_none _ _)
  | data b ks =>
    refine Hits.node0 (n := n + 2) h.root (hit_none _ _) (by have := h.sub.2; simpa [KiD.kids, kidsOf] using this) (fun k hk => ?_)
    obtain ⟨x, hx, rfl⟩ := List.mem_map.1 hk
    have hE := h.sub.1 x hx
    obtain ⟨h1, h2⟩ := hp x hx
    rw [h1] at hE
    obtain ⟨xb, ⟨nm, at_, sp⟩, xk⟩ := x
    simp only at h2
    subst h2
    exact Hits.leaf (n := n + 1) hE (hit_none _ _)

/-- The Signature's hits. -/
theorem sig_hits {w : World} {D : SigD} (h1 : ElAt w D.sig (sigNd D.ns) [D.si, D.sv, D.ki, D.obj]) (h2 : ElAt w D.si siNd (kidsOf (infoKs D.cm D.sm D.a D.b D.cmK D.rs))) (h3 : ElAt w D.sv svNd []) (h4 : ElAt w D.ki kiNd (D.kis.map KiD.b)) (h5 : ElAt w D.obj obNd [])
    (h6 : AllAt w (infoKs D.cm D.sm D.a D.b D.cmK D.rs)) (h7 : ∀ r, r ∈ D.rs → RefAt w r) (h8 : ∀ k, k ∈ D.kis → KiAt w k ∧ k.plain) (hc : ∀ k, k ∈ D.cmK → ElAt w k inNd []) (hrl : D.rs.length ≤ 2048) (hkl : D.kis.length ≤ 1024) (hcl : D.cmK.length ≤ 4096) : Hits w sObj 5 D.sig [D.obj] := by
  refine ⟨_, _, [[], [], [], [D.obj]], h1, by simp, rfl, fun i k hs hi hh => ?_, by have hn : hitB (sigNd D.ns) sObj = false := hit_none _ _; rw [ownHit_no hn]; rfl⟩
  match i, hi, hh with
  | 0, hi, hh =>
    obtain rfl : D.si = k := by simpa using hi
    obtain rfl : [] = hs := by simpa using hh
    refine Hits.node0 (n := 3) h2 (hit_none _ _) (by simp [kidsOf, infoKs]; omega) (fun k hk => ?_)
    obtain ⟨x, hx, rfl⟩ := List.mem_map.1 hk
    have hE := h6 x hx
    simp only [infoKs, List.mem_cons, List.mem_map] at hx
    rcases hx with rfl | rfl | ⟨r, hr, rfl⟩
    · refine Hits.node0 (n := 2) hE (hit_alg _ _ _) hcl (fun k hk => ?_)
      exact Hits.leaf (n := 1) (hc k hk) (hit_none _ _)
    · exact Hits.leaf (n := 2) hE (hit_alg _ _ _)
    · exact (h7 r hr).hits 0
  | 1, hi, hh =>
    obtain rfl : D.sv = k := by simpa using hi
    obtain rfl : [] = hs := by simpa using hh
    exact Hits.leaf (n := 3) h3 (hit_none _ _)
  | 2, hi, hh =>
    obtain rfl : D.ki = k := by simpa using hi
    obtain rfl : [] = hs := by simpa using hh
    refine Hits.node0 (n := 3) h4 (hit_none _ _) (by simp; omega) (fun k hk => ?_)
    obtain ⟨x, hx, rfl⟩ := List.mem_map.1 hk
    exact (h8 x hx).1.hits (h8 x hx).2 0
  | 3, hi, hh =>
    obtain rfl : D.obj = k := by simpa using hi
    obtain rfl : [D.obj] = hs := by simpa using hh
    refine ⟨_, _, [], h5, by simp, rfl, fun i k h hi => by simp at hi, by rw [ownHit_yes hit_obj]; rfl⟩

end Go.Proofs.YbulkcvhiFmt
