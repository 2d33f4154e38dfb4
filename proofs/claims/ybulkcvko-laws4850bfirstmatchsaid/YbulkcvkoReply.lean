/-
  Seat b4850a: the walks of '(*entry).answers' and of 'replyTo'.
-/
import Derived.Test.YbulkcvkoCalls
import Derived.Deep.RegionHeld3
namespace Go.Proofs.Ybulkcvko
open Go.RowKit
set_option linter.unusedVariables false

/-- One entry's description, as data. -/
structure Sp where
  (kind : Int) (has : Bool) (meth : ByteArray) (st : Int)

def upS : ByteArray := ⟨#[117, 112, 115, 116, 114, 101, 97, 109]⟩
def downS : ByteArray := ⟨#[100, 111, 119, 110, 115, 116, 114, 101, 97, 109]⟩
def streamOf (s : Sp) : ByteArray := if s.kind % 3 == 0 then upS else if s.kind % 3 == 1 then downS else ⟨#[]⟩
/-- It answers requests. -/
def ansB (s : Sp) : Bool := (s.kind % 3 == 0) && s.has

/-- The entry at block eb, made of the j-th description. -/
def EntAt (w : World) (lg eb j : Nat) (s : Sp) : Prop :=
  eb ≠ lg ∧ w.cell? ⟨eb, 3, none⟩ = some (.string (streamOf s)) ∧ (s.has = false → w.cell? ⟨eb, 15, none⟩ = some .nilFunc) ∧
  (s.has = true → ∃ ib mb sb, ib ≠ lg ∧ mb ≠ lg ∧ sb ≠ lg ∧ w.cell? ⟨eb, 15, none⟩ = some (.func (.func 4) #[] #[.pointer (some ⟨lg, 0, none⟩), .pointer (some ⟨ib, 0, none⟩), .pointer (some ⟨mb, 0, none⟩), .pointer (some ⟨sb, 0, none⟩)]) ∧
    w.cell? ⟨ib, 0, none⟩ = some (.int .i64 (j : Int)) ∧ w.cell? ⟨mb, 0, none⟩ = some (.string s.meth) ∧ w.cell? ⟨sb, 0, none⟩ = some (.int .i64 s.st))

theorem not_up (s : Sp) (h : (s.kind % 3 == 0) = false) : ¬ (streamOf s).toList = [117, 112, 115, 116, 114, 101, 97, 109] := by
  unfold streamOf
  rw [h, ByteArray.toList_eq]
  by_cases h1 : (s.kind % 3 == 1) = true
  · rw [h1]; simp [downS]
  · rw [show (s.kind % 3 == 1) = false by simpa using h1]; simp

theorem is_up (s : Sp) (h : (s.kind % 3 == 0) = true) : streamOf s = upS := by simp [streamOf, h]

theorem neqNil (w : World) : (binOp .neq 38 .nilFunc .nilFunc).run Yba.prog w = .ok (.bool false) w := by kernel_rfl
theorem neqFunc (g : Fn) (a c : Array Value) (w : World) : (binOp .neq 38 (.func g a c) .nilFunc).run Yba.prog w = .ok (.bool true) w := by kernel_rfl

set_option maxHeartbeats 400000 in
theorem answers_off (eb : Nat) (str : ByteArray) (w : World) (h3 : w.cell? ⟨eb, 3, none⟩ = some (.string str)) (hs : ¬ str.toList = [117, 112, 115, 116, 114, 101, 97, 109]) :
    Calls Yba.prog 6 #[.pointer (some ⟨eb, 0, none⟩)] w fun e w' => e = .returned (.bool false) ∧ w' = w := by
  go_enter Yba.func6, Yba.ntmps6
  go_wp2
  go_ret
  exact ⟨rfl, rfl⟩

set_option maxHeartbeats 400000 in
theorem answers_nil (eb : Nat) (w : World) (h3 : w.cell? ⟨eb, 3, none⟩ = some (.string upS)) (h15 : w.cell? ⟨eb, 15, none⟩ = some .nilFunc) :
    Calls Yba.prog 6 #[.pointer (some ⟨eb, 0, none⟩)] w fun e w' => e = .returned (.bool false) ∧ w' = w := by
  unfold upS at h3
  have hn := neqNil
  have hf := neqFunc
  go_enter Yba.func6, Yba.ntmps6
  go_wp2
  go_ret
  exact ⟨rfl, rfl⟩

set_option maxHeartbeats 400000 in
theorem answers_on (eb : Nat) (g : Fn) (a c : Array Value) (w : World) (h3 : w.cell? ⟨eb, 3, none⟩ = some (.string upS)) (h15 : w.cell? ⟨eb, 15, none⟩ = some (.func g a c)) :
    Calls Yba.prog 6 #[.pointer (some ⟨eb, 0, none⟩)] w fun e w' => e = .returned (.bool true) ∧ w' = w := by
  unfold upS at h3
  have hn := neqNil
  have hf := neqFunc
  go_enter Yba.func6, Yba.ntmps6
  go_wp2
  go_ret
  exact ⟨rfl, rfl⟩

/-- The indices, among the first k, of the entries that answer. -/
def callsTo (sps : Nat → Sp) : Nat → List Int
  | 0 => []
  | k + 1 => if ansB (sps k) then callsTo sps k ++ [(k : Int)] else callsTo sps k

theorem callsTo_length (sps : Nat → Sp) (k : Nat) : (callsTo sps k).length ≤ k := by
  induction k with
  | zero => simp [callsTo]
  | succ k ih =>
    unfold callsTo
    split
    · simp; omega
    · omega

theorem EntAt.kept {w w' : World} {lg eb j : Nat} {s : Sp} {l : List Nat} (h : EntAt w lg eb j s) (hc : Chg l w w') (hl : ∀ b, b ∈ l → b = lg) : EntAt w' lg eb j s := by
  obtain ⟨h1, h2, h3, h4⟩ := h
  have nl : ∀ b, b ≠ lg → b ∉ l := fun b hb hm => hb (hl b hm)
  refine ⟨h1, hc.cell h2 (nl _ h1), fun hs => hc.cell (h3 hs) (nl _ h1), fun hs => ?_⟩
  obtain ⟨ib, mb, sb, n1, n2, n3, k1, k2, k3, k4⟩ := h4 hs
  exact ⟨ib, mb, sb, n1, n2, n3, hc.cell k1 (nl _ h1), hc.cell k2 (nl _ n1), hc.cell k3 (nl _ n2), hc.cell k4 (nl _ n3)⟩

theorem blk_cell {w : World} {b : Nat} {c : Array Value} {t : TypeId} {f : Nat × Nat} (h : w.heap[b]? = some (.cells c t f)) (j : Nat) : w.cell? ⟨b, j, none⟩ = c[j]? := by simp [World.cell?, h]
theorem blk_frozen {w : World} {b : Nat} {c : Array Value} {t : TypeId} (h : w.heap[b]? = some (.cells c t (0, 0))) (j : Nat) : w.frozen? ⟨b, j, none⟩ = false := by simp [World.frozen?, h]

theorem cell_two {W : World} {p : Addr} {b : Nat} {v x y : Value} (h : W.cell? p = some v) (hb : ¬ p.block = b) : ((W.setCell ⟨b, 0, none⟩ x).setCell ⟨b, 1, none⟩ y).cell? p = some v := by
  rw [World.cell?_setCell_other _ _ _ _ (fun e => hb (congrArg Addr.block e).symm), World.cell?_setCell_other _ _ _ _ (fun e => hb (congrArg Addr.block e).symm)]
  exact h

/-- What 'replyTo' is handed. -/
structure Toxics (w : World) (lg tb n : Nat) (e : Nat → Nat) (sps : Nat → Sp) : Prop where
  row : ∀ j, j < n → w.cell? ⟨tb, j, none⟩ = some (.pointer (some ⟨e j, 0, none⟩))
  ent : ∀ j, j < n → EntAt w lg (e j) j (sps j)
  ne : tb ≠ lg

theorem Toxics.kept {w w' : World} {lg tb n : Nat} {e : Nat → Nat} {sps : Nat → Sp} {l : List Nat} (h : Toxics w lg tb n e sps) (hc : Chg l w w') (hl : ∀ b, b ∈ l → b = lg) : Toxics w' lg tb n e sps :=
  ⟨fun j hj => hc.cell (h.row j hj) (fun hm => h.ne (hl _ hm)), fun j hj => (h.ent j hj).kept hc hl, h.ne⟩

theorem LogAt.alloc {ws w : World} {lg : Nat} {L : List Int} (h : LogAt ws w lg L) (o : Obj) : LogAt ws (w.alloc o) lg L := by
  obtain ⟨v, k1, k2, k3, k4, k5⟩ := h
  have hc := (Chg.refl [] w).alloc o
  exact ⟨v, hc.cell k1 (by simp), (hc.frozen (p := ⟨lg, 0, none⟩) (World.block_lt_of_cell? w _ k1) (by simp)).trans k2, k3.alloc o, k4.alloc o, k5⟩
theorem LogAt.drew {ws w : World} {lg : Nat} {L : List Int} (h : LogAt ws w lg L) : LogAt ws w.drew lg L := by
  obtain ⟨v, k1, k2, k3, k4, k5⟩ := h
  exact ⟨v, k1, k2, k3, k4.drew, k5⟩

theorem LogAt.set2 {ws w : World} {lg b : Nat} {L : List Int} {c : Array Value} {t : TypeId} {f : Nat × Nat} (h : LogAt ws w lg L) (hb : w.heap[b]? = some (.cells c t f)) (ht : t ≠ 3) (hbl : b ≠ lg) (hbs : ws.heap.size ≤ b) (x y : Value) :
    LogAt ws ((w.setCell ⟨b, 0, none⟩ x).setCell ⟨b, 1, none⟩ y) lg L := by
  obtain ⟨v, k1, k2, k3, k4, k5⟩ := h
  have hc := ((Chg.refl [b] w).setCell (p := ⟨b, 0, none⟩) (by simp) x).setCell (p := ⟨b, 1, none⟩) (by simp) y
  refine ⟨v, cell_two k1 hbl.symm, by rw [World.frozen?_setCell, World.frozen?_setCell]; exact k2, ownsRow_kept k3 hc (fun k hk => ?_), ((k4.mono (l' := [lg, b]) (by simp)).trans (hc.mono (by simp))).mono (by simp; omega), k5⟩
  simp only [List.mem_singleton]
  rintro rfl
  rcases k3.2 with ⟨rfl, _⟩ | ⟨g', cap', cur, rfl, _, hg', _⟩
  · simp [Value.ownBlock] at hk
  · obtain rfl : g' = k := by simpa [Value.ownBlock] using hk
    rw [hg'] at hb
    cases hb
    exact ht rfl

theorem LogAt.lower {w ws wr : World} {lg : Nat} {L : List Int} (h : LogAt ws wr lg L) (hc : Chg [] w ws) (hl : lg < w.heap.size) : LogAt w wr lg L := by
  obtain ⟨v, k1, k2, k3, k4, k5⟩ := h
  refine ⟨v, k1, k2, ⟨k3.1, ?_⟩, (hc.mono (by simp)).trans k4, hl⟩
  rcases k3.2 with h | ⟨g, cap, cur, h1, h2, h3⟩
  · exact .inl h
  · exact .inr ⟨g, cap, cur, h1, Nat.le_trans hc.size h2, h3⟩

/-- The result's variable at r is written; seen from the world ahead of the call. -/
theorem log_final {w ws wr : World} {lg r : Nat} {L : List Int} {c0 c1 : Value} (hc : Chg [] w ws) (h : LogAt ws wr lg L) (hlg : lg < w.heap.size) (hr : w.heap.size ≤ r) (hrl : r ≠ lg) (hb : wr.heap[r]? = some (.cells #[c0, c1] 48 (0, 0))) (a b : Value) :
    LogAt w ((wr.setCell ⟨r, 0, none⟩ a).setCell ⟨r, 1, none⟩ b) lg L ∧
    ((wr.setCell ⟨r, 0, none⟩ a).setCell ⟨r, 1, none⟩ b).cell? ⟨r, 0, none⟩ = some a ∧ ((wr.setCell ⟨r, 0, none⟩ a).setCell ⟨r, 1, none⟩ b).cell? ⟨r, 1, none⟩ = some b := by
  have h0 : wr.cell? ⟨r, 0, none⟩ = some c0 := blk_cell hb 0
  have h1 : (wr.setCell ⟨r, 0, none⟩ a).cell? ⟨r, 1, none⟩ = some c1 := by
    rw [World.cell?_setCell_other _ _ _ _ (fun e => by have := congrArg Addr.off e; simp at this)]
    exact blk_cell hb 1
  refine ⟨(h.lower hc hlg).set2 hb (by decide) hrl hr a b, ?_, World.cell?_setCell_same _ _ _ h1⟩
  rw [World.cell?_setCell_other _ _ _ _ (fun e => by have := congrArg Addr.off e; simp at this)]
  exact World.cell?_setCell_same _ _ _ h0

/-- The request's struct. -/
def reqOf (m p : ByteArray) : Array Value := #[.string m, .string p, .int .i64 0, .int .i64 0, .bool false, .bool false, .bool false, .int .i64 0]

set_option maxRecDepth 100000 in
set_option maxHeartbeats 1600000 in
theorem reply_none (m p : ByteArray) (lg tb n cap : Nat) (e : Nat → Nat) (sps : Nat → Sp) (w : World) (hn : n ≤ 1024) (hT : Toxics w lg tb n e sps) (hlg : w.cell? ⟨lg, 0, none⟩ = some (.slice none 0 0)) (hfl : w.frozen? ⟨lg, 0, none⟩ = false)
    (hno : ∀ j, j < n → ansB (sps j) = true → (m.toList == (sps j).meth.toList) = false) :
    Calls Yba.prog 5 #[.slice (some ⟨tb, 0, none⟩) n cap, .agg #[.string m, .string p, .int .i64 0, .int .i64 0, .bool false, .bool false, .bool false, .int .i64 0]] w fun x w' =>
      x = .returned (.tuple #[.agg #[.int .i64 0, .string ⟨#[]⟩], .bool false]) ∧ LogAt w w' lg (callsTo sps n) := by
  obtain ⟨ws, hws⟩ : ∃ ws, ws = (w.alloc (.cells #[.string m, .string p, .int .i64 0, .int .i64 0, .bool false, .bool false, .bool false, .int .i64 0] 55)).alloc (.cells #[.int .i64 0, .string ⟨#[]⟩] 48) := ⟨_, rfl⟩
  have hcw : Chg [] w ws := by rw [hws]; exact ((Chg.refl [] w).alloc _).alloc _
  have hTs : Toxics ws lg tb n e sps := hT.kept hcw (by simp)
  have L0 : LogAt ws ws lg [] := ⟨.slice none 0 0, hcw.cell hlg (by simp), (hcw.frozen (p := ⟨lg, 0, none⟩) (World.block_lt_of_cell? w _ hlg) (by simp)).trans hfl, World.ownsRow_nil _ _ _ _, Chg.refl _ _, Nat.lt_of_lt_of_le (World.block_lt_of_cell? w _ hlg) hcw.size⟩
  have HT : Hid (Toxics ws lg tb n e sps) := hTs
  have H0 : Hid (LogAt ws ws lg []) := L0
  have HN : Hid (∀ j, j < n → ansB (sps j) = true → (m.toList == (sps j).meth.toList) = false) := hno
  have HC : Hid (Chg [] w ws) := hcw
  have hlgw : Hid (lg < w.heap.size) := World.block_lt_of_cell? w _ hlg
  clear hT hlg hfl hno hcw hTs L0
  have r0 : ws.cell? ⟨w.heap.size, 0, none⟩ = some (.string m) := by rw [hws, World.cell?_alloc_past _ _ _ (by simp), World.cell?_alloc_at _ _ _ _ rfl]; rfl
  have r1 : ws.cell? ⟨w.heap.size, 1, none⟩ = some (.string p) := by rw [hws, World.cell?_alloc_past _ _ _ (by simp), World.cell?_alloc_at _ _ _ _ rfl]; rfl
  have R0 : Hid (ws.cell? ⟨w.heap.size, 0, none⟩ = some (.string m)) := r0
  have R1 : Hid (ws.cell? ⟨w.heap.size, 1, none⟩ = some (.string p)) := r1
  have HRB : Hid (ws.heap[w.heap.size + 1]? = some (.cells #[.int .i64 0, .string ⟨#[]⟩] 48 (0, 0))) := by
    have := heap_alloc_new (w.alloc (.cells #[.string m, .string p, .int .i64 0, .int .i64 0, .bool false, .bool false, .bool false, .int .i64 0] 55)) (.cells #[.int .i64 0, .string ⟨#[]⟩] 48 (0, 0))
    rw [World.size_alloc] at this
    show _ = _
    rw [hws]
    exact this
  clear r0 r1
  go_enter Yba.func5, Yba.ntmps5
  go_wp2
  rw [← hws]
  have HW : Hid (ws = _) := hws
  clear hws
  go_loopw [12] (fun i wr => ∃ k : Nat, k ≤ n ∧ i = .int .i64 k ∧ LogAt ws wr lg (callsTo sps k)) (fun i _ => n - (intOf i).toNat)
  case atStart => exact ⟨0, Nat.zero_le _, rfl, H0.out⟩
  case round =>
    obtain ⟨k, hk, rfl, hL⟩ := hrel
    clear H0
    have hlk := callsTo_length sps k
    by_cases hlt : k < n
    · have hki : (k : Int) < (n : Int) := by omega
      have hcg : Chg [lg] ws wr := by obtain ⟨_, _, _, _, h, _⟩ := hL; exact h
      have hTw := HT.out.kept hcg (by simp)
      have kr := hTw.row k hlt
      obtain ⟨e1, e2, e3, e4⟩ := hTw.ent k hlt
      by_cases h3 : ((sps k).kind % 3 == 0) = true
      · rw [is_up _ h3] at e2
        cases hh : (sps k).has
        · have A := answers_nil (e k) wr e2 (e3 hh)
          have hcl : callsTo sps (k + 1) = callsTo sps k := by simp [callsTo, ansB, hh]
          have HL : Hid (LogAt ws wr lg (callsTo sps (k + 1))) := by rw [hcl]; exact hL
          clear hL hcg hTw e1 e2 e3 e4 h3 hh hcl
          go_wp2_with fail
          refine A.mono ?_
          rintro x w5 ⟨rfl, rfl⟩
          go_wp2
          go_roundw
          case rel => exact ⟨k + 1, by omega, by go_num, HL.out⟩
          case measure => simp [intOf]; omega
        · obtain ⟨ib, mb, sb, n1, n2, n3, d1, d2, d3, d4⟩ := (HT.out.ent k hlt).2.2.2 hh
          have c1 := hcg.cell d1 (by simpa using (HT.out.ent k hlt).1)
          have A := answers_on (e k) _ _ _ wr e2 c1
          have hans : ansB (sps k) = true := by simp [ansB, h3, hh]
          have HCL : Hid (callsTo sps (k + 1) = callsTo sps k ++ [(k : Int)]) := by simp [Hid, callsTo, hans]
          have hm := HN.out k hlt hans
          have hnl : w.heap.size ≠ lg := by have := hlgw.out; omega
          have q0 : wr.cell? ⟨w.heap.size, 0, none⟩ = some (.string m) := hcg.cell R0.out (by simpa using hnl)
          have q1 : wr.cell? ⟨w.heap.size, 1, none⟩ = some (.string p) := hcg.cell R1.out (by simpa using hnl)
          have B := fun W hW => answer_no m p (sps k).meth ws lg ib mb sb (callsTo sps k) (k : Int) (sps k).st W hW (by omega) d2 d3 d4 n1 n2 n3 hm
          have HB : Hid (∀ W, LogAt ws W lg (callsTo sps k) → _) := B
          have HL : Hid (LogAt ws wr lg (callsTo sps k)) := hL
          have hl5 : wr.heap.size ≠ lg := by have := hlgw.out; have := hcg.size; have := HC.out.size; omega
          have hs5 : ws.heap.size ≤ wr.heap.size := hcg.size
          have hq5 : w.heap.size < wr.heap.size := World.block_lt_of_cell? wr _ q0
          have he5 : e k < wr.heap.size := World.block_lt_of_cell? wr _ c1
          have hqn : ¬ w.heap.size = wr.heap.size := by omega
          have hen : ¬ e k = wr.heap.size := by omega
          have HS : Hid (∀ W, LogAt ws W lg (callsTo sps k ++ [(k : Int)]) → W.cell? ⟨e k, 15, none⟩ = some (.func (.func 4) #[] #[.pointer (some ⟨lg, 0, none⟩), .pointer (some ⟨ib, 0, none⟩), .pointer (some ⟨mb, 0, none⟩), .pointer (some ⟨sb, 0, none⟩)]) ∧ W.cell? ⟨w.heap.size, 0, none⟩ = some (.string m) ∧ W.cell? ⟨w.heap.size, 1, none⟩ = some (.string p)) := by
            intro W hW
            obtain ⟨_, _, _, _, hg, _⟩ := hW
            exact ⟨hg.cell d1 (by simpa using (HT.out.ent k hlt).1), hg.cell R0.out (by simpa using hnl), hg.cell R1.out (by simpa using hnl)⟩
          clear hL hcg hTw e1 e2 e3 e4 h3 hh B hm d1 d2 d3 d4 n1 n2 n3 hnl hans
          go_wp2_with fail
          refine A.mono ?_
          rintro x w5 ⟨rfl, rfl⟩
          go_wp2_with fail
          go_region_held3 (fun w' => w'.cell? ⟨e k, 15, none⟩ = some (.func (.func 4) #[] #[.pointer (some ⟨lg, 0, none⟩), .pointer (some ⟨ib, 0, none⟩), .pointer (some ⟨mb, 0, none⟩), .pointer (some ⟨sb, 0, none⟩)]) ∧ w'.cell? ⟨w.heap.size, 0, none⟩ = some (.string m) ∧ w'.cell? ⟨w.heap.size, 1, none⟩ = some (.string p)) (first | go_keep | exact ⟨cell_two s1 hen, cell_two s2 hqn, cell_two s3 hqn⟩)
            (first
            | (go_at_call 4; refine (HB.out _ ?_).mono ?_; exact HL.out.drew; rintro x w6 ⟨rfl, hL6, hK6⟩; obtain ⟨s1, s2, s3⟩ := HS.out w6 hL6; have G6 : Hid (∀ o, LogAt ws (w6.alloc o) lg (callsTo sps k ++ [(k : Int)])) := fun o => hL6.alloc o; clear hK6)
            | (go_at_call 4; refine (HB.out _ ?_).mono ?_; exact (HL.out.alloc _).drew; rintro x w6 ⟨rfl, hL6, hK6⟩; have f4 := hK6 w5.heap.size _ _ _ (heap_alloc_new w5 _) (by decide) hl5; have f0 := blk_cell f4 0; have f1 := blk_cell f4 1; have f2 := blk_frozen f4 0; have f3 := blk_frozen f4 1; obtain ⟨s1, s2, s3⟩ := HS.out w6 hL6; have G6 : Hid (∀ a b, LogAt ws ((w6.setCell ⟨w5.heap.size, 0, none⟩ a).setCell ⟨w5.heap.size, 1, none⟩ b) lg (callsTo sps k ++ [(k : Int)])) := fun a b => hL6.set2 f4 (by decide) hl5 hs5 a b; clear f4 hK6))
          all_goals
            go_wp2
            go_roundw
            case rel => exact ⟨k + 1, by omega, by go_num, by rw [HCL.out]; first | exact G6.out _ | exact G6.out _ _⟩
            case measure => simp [intOf]; omega
      · have h3' : ((sps k).kind % 3 == 0) = false := by simpa using h3
        have A := answers_off (e k) _ wr e2 (not_up _ h3')
        have hcl : callsTo sps (k + 1) = callsTo sps k := by simp [callsTo, ansB, h3']
        have HL : Hid (LogAt ws wr lg (callsTo sps (k + 1))) := by rw [hcl]; exact hL
        clear hL hcg hTw e1 e2 e3 e4 h3 h3' hcl
        go_wp2_with fail
        refine A.mono ?_
        rintro x w5 ⟨rfl, rfl⟩
        go_wp2
        go_roundw
        case rel => exact ⟨k + 1, by omega, by go_num, HL.out⟩
        case measure => simp [intOf]; omega
    · obtain rfl : k = n := by omega
      have hcg : Chg [lg] ws wr := by obtain ⟨_, _, _, _, h, _⟩ := hL; exact h
      have hnl : w.heap.size + 1 ≠ lg := by have := hlgw.out; omega
      have hsz : ws.heap.size = w.heap.size + 2 := by rw [HW.out]; simp
      have qb : wr.heap[w.heap.size + 1]? = some (.cells #[.int .i64 0, .string ⟨#[]⟩] 48 (0, 0)) := by
        rw [hcg.block _ (by omega) (by simpa using hnl)]
        exact HRB.out
      have q0 := blk_cell qb 0
      have q1 := blk_cell qb 1
      have qf0 := blk_frozen qb 0
      have qf1 := blk_frozen qb 1
      have HF := fun a b => log_final HC.out hL hlgw.out (by omega) hnl qb a b
      have HFF : Hid (∀ a b, _) := HF
      clear HF hcg hL hsz qb
      go_wp2
      obtain ⟨E1, E2, E3⟩ := HFF.out (.int .i64 0) (.string ⟨#[]⟩)
      exact bodyPost_ret (v := .tuple #[.agg #[.int .i64 0, .string ⟨#[]⟩], .bool false]) (by simp [results, Yba.results5, go_sem, E2, E3]) rfl ⟨rfl, E1⟩

end Go.Proofs.Ybulkcvko
