/-
  Seat b4844aF: the URI of a detached reference.
-/
import Derived.Test.YbulkcvhiFmtBld0
namespace Go.Proofs.YbulkcvhiFmt
open Go.RowKit Go.Extern.Stop Go.Stop Go.Extern
set_option linter.unusedVariables false

theorem enc_size (q : Int) (h0 : 0 ≤ q) (h1 : q < 26) : (Utf8.encode (97 + q)).size ≤ 4 := by
  have hv : Utf8.valid (97 + q) = true := by unfold Utf8.valid; simp; omega
  have hn : (97 + q).toNat < 128 := by omega
  unfold Utf8.encode
  simp only [hv, if_true, hn]
  show (ByteArray.mk #[_]).size ≤ 4
  simp [ByteArray.size]
theorem wrap32 (q : Int) (h0 : 0 ≤ q) (h1 : q < 26) : IntKind.i32.wrap (97 + q) = 97 + q := by
  simp [IntKind.wrap, IntKind.signed, IntKind.bits]
  omega
theorem pre_d (e : ByteArray) : Lib.hasPrefix (⟨#[100]⟩ ++ e : ByteArray).data.toList sHash.data.toList = false := by
  have : (⟨#[100]⟩ ++ e : ByteArray).data.toList = 100 :: e.data.toList := by simp
  rw [this]
  rfl
theorem small_sum (n : Nat) (h : n ≤ 4) : ¬ 9223372036854775807 < 1 + n := by omega
theorem small_sum' (n : Nat) (h : n ≤ 4) : 1 + n ≤ 9223372036854775807 := by omega
theorem uri_ops (k : Nat) (hk : k ≤ 1024) : ∃ (q : Int) (e : ByteArray), (k : Int).tmod 26 = q ∧ IntKind.i64.wrap (97 + q) = 97 + q ∧ IntKind.i32.wrap (97 + q) = 97 + q ∧ Utf8.encode (97 + q) = e ∧ ¬ 9223372036854775807 < 1 + e.size ∧ 1 + e.size ≤ 9223372036854775807 := by
  have h0 : (0 : Int) ≤ (k : Int) % 26 := by omega
  have h1 : (k : Int) % 26 < 26 := by omega
  have h2 : (k : Int).tmod 26 = (k : Int) % 26 := Int.tmod_eq_emod_of_nonneg (by omega)
  generalize (k : Int) % 26 = q at *
  have h3 := enc_size q h0 h1
  have h4 := wrap32 q h0 h1
  have h5 : IntKind.i64.wrap (97 + q) = 97 + q := wrap_small _ (by omega) (by omega)
  obtain ⟨e, he⟩ : ∃ e, Utf8.encode (97 + q) = e := ⟨_, rfl⟩
  rw [he] at h3
  exact ⟨q, e, h2, h5, h4, he, small_sum _ h3, small_sum' _ h3⟩

theorem dm_c14_bad : algB (dmNd cC14) [] cSHA = false := by kernel_rfl
theorem ref_ok00 (out : ByteArray) (rb ts tf dm dv : Nat) : RefD.ok ⟨false, false, out, cSHA, rb, ts, tf, dm, dv⟩ = true := by show (algB (dmNd cSHA) [] cSHA && _) = true; rw [algB_dm_ok]; rfl
theorem ref_ok01 (out : ByteArray) (rb ts tf dm dv : Nat) : RefD.ok ⟨false, true, out, cSHA, rb, ts, tf, dm, dv⟩ = true := by show (algB (dmNd cSHA) [] cSHA && _) = true; rw [algB_dm_ok]; rfl
theorem ref_ok11 (out : ByteArray) (rb ts tf dm dv : Nat) : RefD.ok ⟨true, true, out, cSHA, rb, ts, tf, dm, dv⟩ = true := by show (algB (dmNd cSHA) [] cSHA && _) = true; rw [algB_dm_ok]; rfl
theorem ref_ok10 (out a : ByteArray) (rb ts tf dm dv : Nat) : RefD.ok ⟨true, false, out, a, rb, ts, tf, dm, dv⟩ = false := by show (algB (dmNd a) [] cSHA && false) = false; rw [Bool.and_false]
theorem ref_bad (t h : Bool) (out : ByteArray) (rb ts tf dm dv : Nat) : RefD.ok ⟨t, h, out, cC14, rb, ts, tf, dm, dv⟩ = false := by show (algB (dmNd cC14) [] cSHA && _) = false; rw [dm_c14_bad]; rfl

theorem kids_info (cm sm : Nat) (a b : ByteArray) (cmK : List Nat) (rs : List RefD) : kidsOf (infoKs cm sm a b cmK rs) = cm :: sm :: rs.map (·.rb) := by
  simp [kidsOf, infoKs]
theorem info_all {w : World} {cm sm : Nat} {a b : ByteArray} {cmK : List Nat} {rs : List RefD} (h1 : ElAt w cm (cmNd a) cmK) (h2 : ElAt w sm (smNd b) []) (h3 : ∀ r, r ∈ rs → RefAt w r) : AllAt w (infoKs cm sm a b cmK rs) := by
  intro x hx
  simp only [infoKs, List.mem_cons, List.mem_map] at hx
  rcases hx with rfl | rfl | ⟨r, hr, rfl⟩
  · exact h1
  · exact h2
  · exact (h3 r hr).root
theorem info_low {S cm sm : Nat} {a b : ByteArray} {cmK : List Nat} {rs : List RefD} (h1 : S ≤ cm) (h2 : S ≤ sm) (h3 : ∀ r, r ∈ rs → S ≤ r.rb) : ∀ x, x ∈ infoKs cm sm a b cmK rs → S ≤ x.1 := by
  intro x hx
  simp only [infoKs, List.mem_cons, List.mem_map] at hx
  rcases hx with rfl | rfl | ⟨r, hr, rfl⟩
  · exact h1
  · exact h2
  · exact h3 r hr
def kiKs (kis : List KiD) : List Kid := kis.map fun k => (k.b, k.nd, k.kids)
theorem kids_ki (kis : List KiD) : kidsOf (kiKs kis) = kis.map KiD.b := by simp [kidsOf, kiKs]
theorem ki_all {w : World} {kis : List KiD} (h : ∀ k, k ∈ kis → KiAt w k) : AllAt w (kiKs kis) := by
  intro x hx
  obtain ⟨k, hk, rfl⟩ := List.mem_map.1 hx
  exact (h k hk).root
theorem ki_low {S : Nat} {kis : List KiD} (h : ∀ k, k ∈ kis → S ≤ k.b) : ∀ x, x ∈ kiKs kis → S ≤ x.1 := by
  intro x hx
  obtain ⟨k, hk, rfl⟩ := List.mem_map.1 hx
  exact h k hk
theorem certs0 (s c : Nat) : certsIn [(s, xsNd, []), (c, xcNd NS, [])] = [c] := by simp [certsIn, isB_xs_xc, isB_xc_xc]
theorem certs1 (c d : Nat) : certsIn [(c, xcNd NS, []), (d, xcNd NS, [])] = [c, d] := by simp [certsIn, isB_xc_xc]
theorem certs4 (c : Nat) : certsIn [(c, xcNd cOther, [])] = [] := by simp [certsIn, isB_xo_xc]
theorem pair_all {w : World} {x y : Kid} (h1 : ElAt w x.1 x.2.1 x.2.2) (h2 : ElAt w y.1 y.2.1 y.2.2) : AllAt w [x, y] := by
  intro z hz
  simp only [List.mem_cons, List.not_mem_nil, or_false] at hz
  rcases hz with rfl | rfl
  · exact h1
  · exact h2
theorem one_all {w : World} {x : Kid} (h1 : ElAt w x.1 x.2.1 x.2.2) : AllAt w [x] := by
  intro z hz
  obtain rfl : z = x := by simpa using hz
  exact h1
theorem pair_low {S : Nat} {x y : Kid} (h1 : S ≤ x.1) (h2 : S ≤ y.1) : ∀ z, z ∈ [x, y] → S ≤ z.1 := by
  intro z hz
  simp only [List.mem_cons, List.not_mem_nil, or_false] at hz
  rcases hz with rfl | rfl
  · exact h1
  · exact h2
theorem one_low {S : Nat} {x : Kid} (h1 : S ≤ x.1) : ∀ z, z ∈ [x] → S ≤ z.1 := by
  intro z hz
  obtain rfl : z = x := by simpa using hz
  exact h1

/-- The whole tree. -/
theorem tree_of {w : World} {D : SigD} (h1 : ElAt w D.sig (sigNd D.ns) D.sigK) (h2 : ElAt w D.si siNd (kidsOf (infoKs D.cm D.sm D.a D.b D.cmK D.rs))) (h3 : ElAt w D.sv svNd []) (h4 : ElAt w D.ki kiNd (D.kis.map KiD.b)) (h5 : ElAt w D.obj obNd [])
    (h6 : AllAt w (infoKs D.cm D.sm D.a D.b D.cmK D.rs)) (h7 : ∀ r, r ∈ D.rs → RefAt w r) (h8 : ∀ k, k ∈ D.kis → (KiAt w k ∧ k.plain) ∧ k.certs.length ≤ 2) (hc : ∀ k, k ∈ D.cmK → ElAt w k inNd []) (hroot : w.cell? ⟨D.sig, 4, none⟩ = some (.pointer none)) (hrl : D.rs.length ≤ 2048) (hkl : D.kis.length ≤ 1024) (hcl : D.cmK.length ≤ 4096) : SigTree w D := by
  refine ⟨h1, h2, h3, h4, h5, h6, h7, fun k hk => (h8 k hk).1.1, hroot, fun hsv => ⟨5, ?_⟩, hrl, hkl, fun j => ?_, hcl⟩
  · refine sig_hits ?_ h2 h3 h4 h5 h6 h7 (fun k hk => (h8 k hk).1) hc hrl hkl hcl
    have e : D.sigK = [D.si, D.sv, D.ki, D.obj] := by rw [SigD.sigK, hsv]
    rw [← e]
    exact h1
  · have := kiCerts_le (l := D.kis.take j) (fun k hk => (h8 k (List.mem_of_mem_take hk)).2)
    have h2 : (D.kis.take j).length ≤ D.kis.length := by simp; omega
    omega

theorem own_info {w : World} {S cm sm : Nat} {v : Value} {a b : ByteArray} {cmK : List Nat} {rs : List RefD} (h : w.ownsRow S 24 1 v (ptrs (cm :: sm :: rs.map (·.rb))).length (ptrs (cm :: sm :: rs.map (·.rb)))) :
    w.ownsRow S 24 1 v (kidsOf (infoKs cm sm a b cmK rs)).length (ptrs (kidsOf (infoKs cm sm a b cmK rs))) := by
  rw [kids_info]
  have hp : (ptrs (cm :: sm :: rs.map (·.rb))).length = (cm :: sm :: rs.map (·.rb)).length := by simp [ptrs]
  rw [hp] at h
  exact h
theorem own_info7 {w : World} {S cm sm rb : Nat} {v : Value} {a b : ByteArray} {cmK : List Nat} {rs : List RefD} {r : RefD} (hr : r.rb = rb) (h : w.ownsRow S 24 1 v (ptrs (cm :: sm :: rs.map (fun x : RefD => x.rb)) ++ [Value.pointer (some ⟨rb, 0, none⟩)]).length (ptrs (cm :: sm :: rs.map (fun x : RefD => x.rb)) ++ [Value.pointer (some ⟨rb, 0, none⟩)])) :
    w.ownsRow S 24 1 v (kidsOf (infoKs cm sm a b cmK (rs ++ [r]))).length (ptrs (kidsOf (infoKs cm sm a b cmK (rs ++ [r])))) := by
  subst hr
  have e : ptrs (cm :: sm :: rs.map (fun x : RefD => x.rb)) ++ [Value.pointer (some ⟨r.rb, 0, none⟩)] = ptrs (cm :: sm :: (rs ++ [r]).map (fun x : RefD => x.rb)) := by simp [ptrs]
  rw [e] at h
  exact own_info h
theorem own_ki {w : World} {S : Nat} {v : Value} {kis : List KiD} (h : w.ownsRow S 24 1 v (ptrs (kis.map KiD.b)).length (ptrs (kis.map KiD.b))) : w.ownsRow S 24 1 v (kidsOf (kiKs kis)).length (ptrs (kidsOf (kiKs kis))) := by
  rw [kids_ki]
  have hp : (ptrs (kis.map KiD.b)).length = (kis.map KiD.b).length := by simp [ptrs]
  rw [hp] at h
  exact h
theorem cm_ok : algB (cmNd cC14) [] cC14 = true := by kernel_rfl
theorem cm_bad1 : algB (cmNd cRSA) [] cC14 = false := by kernel_rfl
theorem cm_bad6 (ik : Nat) : algB (cmNd cC14) [ik] cC14 = false := by
  show (_ && false) = false
  rw [Bool.and_false]
theorem sm_ok : algB (smNd cRSA) [] cRSA = true := by kernel_rfl
theorem sm_bad : algB (smNd cSHA) [] cRSA = false := by kernel_rfl

/-- The result is written. -/
theorem fin10 {z : World} {b : Nat} {c : Array Value} (h : z.heap[b]? = some (.cells c 28 (0, 0))) (hc : c.size = 10) :
    (∀ i, i < 10 → (∃ u, z.cell? ⟨b, i, none⟩ = some u) ∧ z.frozen? ⟨b, i, none⟩ = false) ∧
    ∀ v0 v1 v2 v3 v4 v5 v6 v7 v8 v9 : Value, ∃ W, W = (((((((((z.setCell ⟨b, 0, none⟩ v0).setCell ⟨b, 1, none⟩ v1).setCell ⟨b, 2, none⟩ v2).setCell ⟨b, 3, none⟩ v3).setCell ⟨b, 4, none⟩ v4).setCell ⟨b, 5, none⟩ v5).setCell ⟨b, 6, none⟩ v6).setCell ⟨b, 7, none⟩ v7).setCell ⟨b, 8, none⟩ v8).setCell ⟨b, 9, none⟩ v9 ∧
      W.heap[b]? = some (.cells #[v0, v1, v2, v3, v4, v5, v6, v7, v8, v9] 28 (0, 0)) ∧ Chg [b] z W := by
  refine ⟨fun i hi => ⟨⟨c[i]'(by omega), by simp [World.cell?, h, hc, hi]⟩, by simp [World.frozen?, h]⟩, fun v0 v1 v2 v3 v4 v5 v6 v7 v8 v9 => ⟨_, rfl, ?_, ?_⟩⟩
  · obtain ⟨l⟩ := c
    match l, hc with
    | [a0, a1, a2, a3, a4, a5, a6, a7, a8, a9], _ =>
      have s0 : (z.setCell ⟨b, 0, none⟩ v0).heap[b]? = some (.cells #[v0, a1, a2, a3, a4, a5, a6, a7, a8, a9] 28 (0, 0)) := obj_set h v0
      have s1 : ((z.setCell ⟨b, 0, none⟩ v0).setCell ⟨b, 1, none⟩ v1).heap[b]? = some (.cells #[v0, v1, a2, a3, a4, a5, a6, a7, a8, a9] 28 (0, 0)) := obj_set s0 v1
      have s2 : (((z.setCell ⟨b, 0, none⟩ v0).setCell ⟨b, 1, none⟩ v1).setCell ⟨b, 2, none⟩ v2).heap[b]? = some (.cells #[v0, v1, v2, a3, a4, a5, a6, a7, a8, a9] 28 (0, 0)) := obj_set s1 v2
      have s3 : ((((z.setCell ⟨b, 0, none⟩ v0).setCell ⟨b, 1, none⟩ v1).setCell ⟨b, 2, none⟩ v2).setCell ⟨b, 3, none⟩ v3).heap[b]? = some (.cells #[v0, v1, v2, v3, a4, a5, a6, a7, a8, a9] 28 (0, 0)) := obj_set s2 v3
      have s4 : (((((z.setCell ⟨b, 0, none⟩ v0).setCell ⟨b, 1, none⟩ v1).setCell ⟨b, 2, none⟩ v2).setCell ⟨b, 3, none⟩ v3).setCell ⟨b, 4, none⟩ v4).heap[b]? = some (.cells #[v0, v1, v2, v3, v4, a5, a6, a7, a8, a9] 28 (0, 0)) := obj_set s3 v4
      have s5 : ((((((z.setCell ⟨b, 0, none⟩ v0).setCell ⟨b, 1, none⟩ v1).setCell ⟨b, 2, none⟩ v2).setCell ⟨b, 3, none⟩ v3).setCell ⟨b, 4, none⟩ v4).setCell ⟨b, 5, none⟩ v5).heap[b]? = some (.cells #[v0, v1, v2, v3, v4, v5, a6, a7, a8, a9] 28 (0, 0)) := obj_set s4 v5
      have s6 : (((((((z.setCell ⟨b, 0, none⟩ v0).setCell ⟨b, 1, none⟩ v1).setCell ⟨b, 2, none⟩ v2).setCell ⟨b, 3, none⟩ v3).setCell ⟨b, 4, none⟩ v4).setCell ⟨b, 5, none⟩ v5).setCell ⟨b, 6, none⟩ v6).heap[b]? = some (.cells #[v0, v1, v2, v3, v4, v5, v6, a7, a8, a9] 28 (0, 0)) := obj_set s5 v6
      have s7 : ((((((((z.setCell ⟨b, 0, none⟩ v0).setCell ⟨b, 1, none⟩ v1).setCell ⟨b, 2, none⟩ v2).setCell ⟨b, 3, none⟩ v3).setCell ⟨b, 4, none⟩ v4).setCell ⟨b, 5, none⟩ v5).setCell ⟨b, 6, none⟩ v6).setCell ⟨b, 7, none⟩ v7).heap[b]? = some (.cells #[v0, v1, v2, v3, v4, v5, v6, v7, a8, a9] 28 (0, 0)) := obj_set s6 v7
      have s8 : (((((((((z.setCell ⟨b, 0, none⟩ v0).setCell ⟨b, 1, none⟩ v1).setCell ⟨b, 2, none⟩ v2).setCell ⟨b, 3, none⟩ v3).setCell ⟨b, 4, none⟩ v4).setCell ⟨b, 5, none⟩ v5).setCell ⟨b, 6, none⟩ v6).setCell ⟨b, 7, none⟩ v7).setCell ⟨b, 8, none⟩ v8).heap[b]? = some (.cells #[v0, v1, v2, v3, v4, v5, v6, v7, v8, a9] 28 (0, 0)) := obj_set s7 v8
      have s9 : ((((((((((z.setCell ⟨b, 0, none⟩ v0).setCell ⟨b, 1, none⟩ v1).setCell ⟨b, 2, none⟩ v2).setCell ⟨b, 3, none⟩ v3).setCell ⟨b, 4, none⟩ v4).setCell ⟨b, 5, none⟩ v5).setCell ⟨b, 6, none⟩ v6).setCell ⟨b, 7, none⟩ v7).setCell ⟨b, 8, none⟩ v8).setCell ⟨b, 9, none⟩ v9).heap[b]? = some (.cells #[v0, v1, v2, v3, v4, v5, v6, v7, v8, v9] 28 (0, 0)) := obj_set s8 v9
      exact s9
  · have hm : b ∈ [b] ∨ z.heap.size ≤ b := .inl (by simp)
    exact ((((((((((Chg.refl [b] z).setCell (p := ⟨b, 0, none⟩) hm v0).setCell (p := ⟨b, 1, none⟩) hm v1).setCell (p := ⟨b, 2, none⟩) hm v2).setCell (p := ⟨b, 3, none⟩) hm v3).setCell (p := ⟨b, 4, none⟩) hm v4).setCell (p := ⟨b, 5, none⟩) hm v5).setCell (p := ⟨b, 6, none⟩) hm v6).setCell (p := ⟨b, 7, none⟩) hm v7).setCell (p := ⟨b, 8, none⟩) hm v8).setCell (p := ⟨b, 9, none⟩) hm v9
theorem cells10 {z : World} {b : Nat} {v0 v1 v2 v3 v4 v5 v6 v7 v8 v9 : Value} (h : z.heap[b]? = some (.cells #[v0, v1, v2, v3, v4, v5, v6, v7, v8, v9] 28 (0, 0))) :
    z.cell? ⟨b, 0, none⟩ = some v0 ∧ z.cell? ⟨b, 1, none⟩ = some v1 ∧ z.cell? ⟨b, 2, none⟩ = some v2 ∧ z.cell? ⟨b, 3, none⟩ = some v3 ∧ z.cell? ⟨b, 4, none⟩ = some v4 ∧ z.cell? ⟨b, 5, none⟩ = some v5 ∧ z.cell? ⟨b, 6, none⟩ = some v6 ∧ z.cell? ⟨b, 7, none⟩ = some v7 ∧ z.cell? ⟨b, 8, none⟩ = some v8 ∧ z.cell? ⟨b, 9, none⟩ = some v9 := by
  refine ⟨?_, ?_, ?_, ?_, ?_, ?_, ?_, ?_, ?_, ?_⟩ <;> simp [World.cell?, h]
theorem chg28_grow {S b : Nat} {z W : World} {c : Array Value} (h : z.heap[b]? = some (.cells c 28 (0, 0))) (hb : S ≤ b) (hC : Chg [b] z W) : Grow S z W :=
  ⟨[b], Gro.ofChg hC (by simpa using hb), fun k hk => by obtain rfl : k = b := List.mem_singleton.1 hk; exact ⟨_, _, _, h, by decide, by decide, by decide⟩⟩
theorem own28 {b S e z n : Nat} {w W : World} {v : Value} {xs : List Value} {c : Array Value} (h : w.ownsRow S e z v n xs) (hb : w.heap[b]? = some (.cells c 28 (0, 0))) (he : 28 ≠ e) (hC : Chg [b] w W) : W.ownsRow S e z v n xs :=
  ownsRow_kept h hC (fun k hk hm => own_ne_type h hb he (by simpa using (by simpa using hm : k = b) ▸ hk))
theorem all_ok {rs : List RefD} {okf : Nat → Bool} (h : ∀ (j : Nat) (r : RefD), rs[j]? = some r → r.ok = okf j) (hf : ∀ j, okf j = true) : rs.all RefD.ok = true := by
  rw [List.all_eq_true]
  intro r hr
  obtain ⟨j, hj, rfl⟩ := List.mem_iff_getElem.1 hr
  rw [h j _ (by simp [hj]), hf]

end Go.Proofs.YbulkcvhiFmt
