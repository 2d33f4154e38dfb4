/-
  Seat b4844aF: the whole Signature in memory.
-/
import Derived.Test.YbulkcvhiFmtEqp
namespace Go.Proofs.YbulkcvhiFmt
open Go.RowKit Go.Extern.Stop Go.Stop Go.Extern
set_option linter.unusedVariables false

structure SigD where
  (sig si sv ki obj cm sm : Nat) (a b : ByteArray) (cmK : List Nat) (nsok hasSV : Bool) (rs : List RefD) (kis : List KiD)
def SigD.ns (D : SigD) : ByteArray := match D.nsok with | true => NS | false => cOther
def SigD.sigK (D : SigD) : List Nat := match D.hasSV with | true => [D.si, D.sv, D.ki, D.obj] | false => [D.si, D.ki, D.obj]
def SigD.ok (D : SigD) : Bool := D.nsok && (D.hasSV && (!D.rs.isEmpty && (algB (cmNd D.a) D.cmK cC14 && (algB (smNd D.b) [] cRSA && (D.rs.all RefD.ok && !(kiCerts D.kis).isEmpty)))))

structure SigTree (w : World) (D : SigD) : Prop where
  sig : ElAt w D.sig (sigNd D.ns) D.sigK
  si : ElAt w D.si siNd (kidsOf (infoKs D.cm D.sm D.a D.b D.cmK D.rs))
  sv : ElAt w D.sv svNd []
  ki : ElAt w D.ki kiNd (D.kis.map KiD.b)
  obj : ElAt w D.obj obNd []
  info : AllAt w (infoKs D.cm D.sm D.a D.b D.cmK D.rs)
  refs : ∀ r, r ∈ D.rs → RefAt w r
  kis : ∀ k, k ∈ D.kis → KiAt w k
  root : w.cell? ⟨D.sig, 4, none⟩ = some (.pointer none)
  hits : D.hasSV = true → ∃ n, Hits w sObj n D.sig [D.obj]
  rl : D.rs.length ≤ 2048
  kl : D.kis.length ≤ 1024
  cl : ∀ k, (kiCerts (D.kis.take k)).length ≤ 2048
  cml : D.cmK.length ≤ 4096
theorem SigTree.keptC {w w' : World} {D : SigD} (h : SigTree w D) (hc : Chg [] w w') : SigTree w' D :=
  ⟨h.sig.keptC hc, h.si.keptC hc, h.sv.keptC hc, h.ki.keptC hc, h.obj.keptC hc, h.info.keptC hc, fun r hr => (h.refs r hr).keptC hc, fun k hk => (h.kis k hk).keptC hc, hc.cell h.root (by simp),
    fun k => by obtain ⟨n, hn⟩ := h.hits k; exact ⟨n, hn.keptC hc⟩, h.rl, h.kl, h.cl, h.cml⟩

theorem SigOut.bad {w w' : World} {ok : Bool} {si sv obj p : Nat} {rs : List RefD} {kis : List KiD} (h : ok = false) : SigOut w w' ok si sv obj rs kis (.pointer none) (.iface 72 (.pointer (some ⟨p, 0, none⟩))) := by
  subst h; exact ⟨rfl, p, rfl⟩

theorem readSig_all (F : Interp) (D : SigD) (w : World) (hF : F.answers w.tape) (h : SigTree w D) :
    Calls Ybaf.prog 7 #[.pointer (some ⟨D.sig, 0, none⟩)] w fun e w' => ∃ v1 v2, e = .returned (.tuple #[v1, v2]) ∧ SigOut w w' D.ok D.si D.sv D.obj D.rs D.kis v1 v2 ∧ Chg [] w w' := by
  obtain ⟨sig, si, sv, ki, obj, cm, sm, a, b, cmK, nsok, hasSV, rs, kis⟩ := D
  obtain ⟨h1, h2, h3, h4, h5, h6, h7, h8, h9, h10, h11, h12, h13, h14⟩ := h
  have fin : ∀ {ok : Bool}, ok = false → ∀ (e : Ending) (w' : World), (∃ p, e = .returned (.tuple #[.pointer none, .iface 72 (.pointer (some ⟨p, 0, none⟩))]) ∧ Chg [] w w') →
      ∃ v1 v2, e = .returned (.tuple #[v1, v2]) ∧ SigOut w w' ok si sv obj rs kis v1 v2 ∧ Chg [] w w' := by
    intro ok hok e w' hh
    obtain ⟨p, rfl, hC⟩ := hh
    exact ⟨_, _, rfl, SigOut.bad hok, hC⟩
  have all4 : AllAt w (sigKs si sv ki obj (kidsOf (infoKs cm sm a b cmK rs)) (kis.map KiD.b)) := by
    intro x hx
    simp only [sigKs, List.mem_cons, List.not_mem_nil, or_false] at hx
    rcases hx with rfl | rfl | rfl | rfl
    · exact h2
    · exact h3
    · exact h4
    · exact h5
  cases hasSV with
  | false =>
    refine (readSig_bad1 F sig (sigNd (SigD.ns ⟨sig, si, sv, ki, obj, cm, sm, a, b, cmK, nsok, false, rs, kis⟩)) [(si, siNd, kidsOf (infoKs cm sm a b cmK rs)), (ki, kiNd, kis.map KiD.b), (obj, obNd, [])] w hF h1 (fun x hx => ?_) (by simp [kidsOf]) ?_).mono (fin (by simp [SigD.ok]))
    · simp only [List.mem_cons, List.not_mem_nil, or_false] at hx
      rcases hx with rfl | rfl | rfl
      · exact h2
      · exact h4
      · exact h5
    · cases nsok with
      | false => exact expK_sig_other _
      | true => exact expK_sig_short _ _ _ _ _
  | true =>
    cases nsok with
    | false => exact (readSig_bad1 F sig (sigNd cOther) (sigKs si sv ki obj (kidsOf (infoKs cm sm a b cmK rs)) (kis.map KiD.b)) w hF h1 all4 (by simp [kidsOf, sigKs]) (expK_sig_other _)).mono (fin (by simp [SigD.ok]))
    | true =>
      have hil : (kidsOf (infoKs cm sm a b cmK rs)).length = rs.length + 2 := by simp [kidsOf, infoKs]
      cases hre : rs.isEmpty with
      | true => exact (readSig_bad2 F sig si sv ki obj (infoKs cm sm a b cmK rs) (kis.map KiD.b) w hF h1 all4 h6 (by rw [hil]; simp only at h11; omega) (by rw [expK_info, hre]; rfl)).mono (fin (by simp [SigD.ok, hre]))
      | false =>
        have hne : rs ≠ [] := by rintro rfl; simp at hre
        cases hq1 : algB (cmNd a) cmK cC14 with
        | false => exact (readSig_bad3 F sig si sv ki obj cm sm a b cmK (kis.map KiD.b) rs w hF h1 all4 h6 h11 hne h14 hq1).mono (fin (by simp [SigD.ok, hq1]))
        | true =>
          cases hq2 : algB (smNd b) [] cRSA with
          | false => exact (readSig_bad4 F sig si sv ki obj cm sm a b cmK (kis.map KiD.b) rs w hF h1 all4 h6 h11 hne h14 hq1 hq2).mono (fin (by simp [SigD.ok, hq2]))
          | true =>
            obtain ⟨n, hn⟩ := h10 rfl
            have hok : SigD.ok ⟨sig, si, sv, ki, obj, cm, sm, a, b, cmK, true, true, rs, kis⟩ = (rs.all RefD.ok && !(kiCerts kis).isEmpty) := by simp [SigD.ok, hre, hq1, hq2]
            rw [hok]
            exact readSig_main F sig si sv ki obj cm sm a b cmK (kis.map KiD.b) rs w hF h1 all4 h6 h11 hne h14 kis n hq1 hq2 rfl h12 h13 h7 h8 h9 hn

end Go.Proofs.YbulkcvhiFmt
