/-
  Seat b4844aF: readReference, all cases.
-/
import Derived.Test.YbulkcvhiFmtRef000
import Derived.Test.YbulkcvhiFmtRef001
import Derived.Test.YbulkcvhiFmtRef010
import Derived.Test.YbulkcvhiFmtRef011
import Derived.Test.YbulkcvhiFmtRef100
import Derived.Test.YbulkcvhiFmtRef110
import Derived.Test.YbulkcvhiFmtRef111
import Derived.Test.YbulkcvhiFmtRefD
namespace Go.Proofs.YbulkcvhiFmt
open Go.RowKit Go.Extern.Stop Go.Stop Go.Extern
set_option linter.unusedVariables false

theorem readRef_ok (F : Interp) (r : RefD) (sig obj n : Nat) (w : World) (hF : F.answers w.tape) (h : RefAt w r) (hp : w.cell? ⟨sig, 4, none⟩ = some (.pointer none)) (hH : Hits w sObj n sig [obj]) (hok : r.ok = true) :
    Calls Ybaf.prog 13 #[.pointer (some ⟨sig, 0, none⟩), .pointer (some ⟨r.rb, 0, none⟩)] w fun e w' => e = .returned (.tuple #[.agg #[.string r.uri, .pointer (r.tp obj), .pointer (some ⟨r.dv, 0, none⟩)], .nilIface]) ∧ Chg [] w w' := by
  obtain ⟨tr, ha, out, alg, rb, ts, tf, dm, dv⟩ := r
  obtain ⟨h1, h2, h3, h4, h5⟩ := h
  have hq : algB (dmNd alg) [] cSHA = true := by
    cases hq : algB (dmNd alg) [] cSHA
    · simp [RefD.ok, hq] at hok
    · rfl
  cases tr <;> cases ha
  · exact ref_plain_out F out alg sig rb dm dv w hF h1 (plain_all h2 h3) (h5 rfl) hq
  · exact ref_plain_hash F alg sig rb dm dv obj n w hF h1 (plain_all h2 h3) hp hH hq
  · simp [RefD.ok, hq] at hok
  · exact ref_trans_hash F alg sig rb ts tf dm dv obj n w hF h1 (trans_all h2 h3 (h4 rfl).1) (h4 rfl).2 hp hH hq

theorem readRef_bad (F : Interp) (r : RefD) (sig obj n : Nat) (w : World) (hF : F.answers w.tape) (h : RefAt w r) (hp : w.cell? ⟨sig, 4, none⟩ = some (.pointer none)) (hH : Hits w sObj n sig [obj]) (hok : r.ok = false) :
    Calls Ybaf.prog 13 #[.pointer (some ⟨sig, 0, none⟩), .pointer (some ⟨r.rb, 0, none⟩)] w fun e w' => ∃ p, e = .returned (.tuple #[.agg #[.string ⟨#[]⟩, .pointer none, .pointer none], .iface 72 (.pointer (some ⟨p, 0, none⟩))]) ∧ Chg [] w w' := by
  obtain ⟨tr, ha, out, alg, rb, ts, tf, dm, dv⟩ := r
  obtain ⟨h1, h2, h3, h4, h5⟩ := h
  cases tr <;> cases ha
  · exact ref_plain_out_bad F out alg sig rb dm dv w hF h1 (plain_all h2 h3) (h5 rfl) (by simpa [RefD.ok] using hok)
  · exact ref_plain_hash_bad F alg sig rb dm dv obj n w hF h1 (plain_all h2 h3) hp hH (by simpa [RefD.ok] using hok)
  · exact ref_trans_out_bad F out alg sig rb ts tf dm dv w hF h1 (trans_all h2 h3 (h4 rfl).1) (h4 rfl).2 (h5 rfl)
  · exact ref_trans_hash_bad F alg sig rb ts tf dm dv obj n w hF h1 (trans_all h2 h3 (h4 rfl).1) (h4 rfl).2 hp hH (by simpa [RefD.ok] using hok)

end Go.Proofs.YbulkcvhiFmt
