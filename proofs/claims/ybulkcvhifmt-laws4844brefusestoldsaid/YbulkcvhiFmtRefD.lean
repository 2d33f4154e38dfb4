/-
  Seat b4844aF: a reference's data.
-/
import Derived.Test.YbulkcvhiFmtRef0
namespace Go.Proofs.YbulkcvhiFmt
open Go.RowKit Go.Extern.Stop Go.Stop Go.Extern
set_option linter.unusedVariables false

structure RefD where
  (trans hash : Bool) (out alg : ByteArray) (rb ts tf dm dv : Nat)
def RefD.uri (r : RefD) : ByteArray := match r.hash with | true => sHObj | false => r.out
def RefD.kids (r : RefD) : List Nat := match r.trans with | true => [r.ts, r.dm, r.dv] | false => [r.dm, r.dv]
def RefD.tp (r : RefD) (obj : Nat) : Option Addr := match r.hash with | true => some ⟨obj, 0, none⟩ | false => none
def RefD.ok (r : RefD) : Bool := algB (dmNd r.alg) [] cSHA && (!r.trans || r.hash)
structure RefAt (w : World) (r : RefD) : Prop where
  root : ElAt w r.rb (refNd r.uri) r.kids
  dm : ElAt w r.dm (dmNd r.alg) []
  dv : ElAt w r.dv dvNd []
  ts : r.trans = true → ElAt w r.ts tsNd [r.tf] ∧ ElAt w r.tf tfNd []
  out : r.hash = false → Lib.hasPrefix r.out.data.toList sHash.data.toList = false
theorem RefAt.keptC {w w' : World} {r : RefD} (h : RefAt w r) (hc : Chg [] w w') : RefAt w' r :=
  ⟨h.root.keptC hc, h.dm.keptC hc, h.dv.keptC hc, fun k => ⟨(h.ts k).1.keptC hc, (h.ts k).2.keptC hc⟩, h.out⟩

theorem plain_all {w : World} {alg : ByteArray} {dm dv : Nat} (h2 : ElAt w dm (dmNd alg) []) (h3 : ElAt w dv dvNd []) : AllAt w (plainKs alg dm dv) := by
  intro x hx
  simp only [plainKs, List.mem_cons, List.not_mem_nil, or_false] at hx
  rcases hx with rfl | rfl
  · exact h2
  · exact h3
theorem trans_all {w : World} {alg : ByteArray} {ts tf dm dv : Nat} (h2 : ElAt w dm (dmNd alg) []) (h3 : ElAt w dv dvNd []) (h4 : ElAt w ts tsNd [tf]) : AllAt w (transKs alg ts tf dm dv) := by
  intro x hx
  simp only [transKs, List.mem_cons, List.not_mem_nil, or_false] at hx
  rcases hx with rfl | rfl | rfl
  · exact h4
  · exact h2
  · exact h3

end Go.Proofs.YbulkcvhiFmt
