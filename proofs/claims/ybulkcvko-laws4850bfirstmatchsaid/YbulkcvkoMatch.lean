/-
  Seat b4850a: 'replyTo' where an entry matches.
-/
import Derived.Test.YbulkcvkoReply
import Derived.Deep.RegionHeld3
namespace Go.Proofs.Ybulkcvko
open Go.RowKit
set_option linter.unusedVariables false

theorem hidMk {p : Prop} (h : p) : Hid p := h

set_option maxRecDepth 100000 in
set_option maxHeartbeats 1600000 in
theorem reply_match (m p : ByteArray) (lg tb n cap : Nat) (e : Nat → Nat) (sps : Nat → Sp) (w : World) (hn : n ≤ 1024) (mi : Nat) (hmi : mi < n) (hma : ansB (sps mi) = true) (hmm : (m.toList == (sps mi).meth.toList) = true) (hT : Toxics w lg tb n e sps) (hlg : w.cell? ⟨lg, 0, none⟩ = some (.slice none 0 0)) (hfl : w.frozen? ⟨lg, 0, none⟩ = false)
    (hno : ∀ j, j < mi → ansB (sps j) = true → (m.toList == (sps j).meth.toList) = false) :
    Calls Yba.prog 5 #[.slice (some ⟨tb, 0, none⟩) n cap, .agg #[.string m, .string p, .int .i64 0, .int .i64 0, .bool false, .bool false, .bool false, .int .i64 0]] w fun x w' =>
      x = .returned (.tuple #[.agg #[.int .i64 (sps mi).st, .string p], .bool true]) ∧ LogAt w w' lg (callsTo sps (mi + 1)) := by
  obtain ⟨ws, hws⟩ : ∃ ws, ws = (w.alloc (.cells #[.string m, .string p, .int .i64 0, .int .i64 0, .bool false, .bool false, .bool false, .int .i64 0] 55)).alloc (.cells #[.int .i64 0, .string ⟨#[]⟩] 48) := ⟨_, rfl⟩
  have hcw : Chg [] w ws := by rw [hws]; exact ((Chg.refl [] w).alloc _).alloc _
  have hTs : Toxics ws lg tb n e sps := hT.kept hcw (by simp)
  have L0 : LogAt ws ws lg [] := ⟨.slice none 0 0, hcw.cell hlg (by simp), (hcw.frozen (p := ⟨lg, 0, none⟩) (World.block_lt_of_cell? w _ hlg) (by simp)).trans hfl, World.ownsRow_nil _ _ _ _, Chg.refl _ _, Nat.lt_of_lt_of_le (World.block_lt_of_cell? w _ hlg) hcw.size⟩
  have HT : Hid (Toxics ws lg tb n e sps) := hTs
  have H0 : Hid (LogAt ws ws lg []) := L0
  have HN : Hid (∀ j, j < mi → ansB (sps j) = true → (m.toList == (sps j).meth.toList) = false) := hno
  have HC : Hid (Chg [] w ws) := hcw
  have hlgw : Hid (lg < w.heap.size) := World.block_lt_of_cell? w _ hlg
  clear hT hlg hfl hno hcw hTs L0
  have r0 : ws.cell? ⟨w.heap.size, 0, none⟩ = some (.string m) := by rw [hws, World.cell?_alloc_past _ _ _ (by simp), World.cell?_alloc_at _ _ _ _ rfl]; rfl
  have r1 : ws.cell? ⟨w.heap.size, 1, none⟩ = some (.string p) := by rw [hws, World.cell?_alloc_past _ _ _ (by simp), World.cell?_alloc_at _ _ _ _ rfl]; rfl
  have R0 : Hid (ws.cell? ⟨w.heap.size, 0, none⟩ = some (.string m)) := r0
  have R1 : Hid (ws.cell? ⟨w.heap.size, 1, none⟩ = some (.string p)) := r1
  have HRB : Hid (ws.heap[w.heap.size + 1]? = some (.cells #[.int .i64 0, .string ⟨#[]⟩] 48 (0, 0))) := by
    have := heap_alloc_new (w.alloc (.cells #[.string m, .string p, .int .i64 0, .int .i64 0, .bool false, .bool false, .bool false, .int .i64 0] 55)) (.cells #[.int .i64 0, .string ⟨#[]⟩] 48 (0, 0))
    rw [World.size_alloc] at this
    show _ = _
    rw [hws]
    exact this
  clear r0 r1
  go_enter Yba.func5, Yba.ntmps5
  go_wp2
  rw [← hws]
  have HW : Hid (ws = _) := hws
  clear hws
  go_loopw [12] (fun i wr => ∃ k : Nat, k ≤ mi ∧ i = .int .i64 k ∧ LogAt ws wr lg (callsTo sps k)) (fun i _ => n - (intOf i).toNat)
  case atStart => exact ⟨0, Nat.zero_le _, rfl, H0.out⟩
  case round =>
    obtain ⟨k, hk, rfl, hL⟩ := hrel
    clear H0
    have hlk := callsTo_length sps k
    have hlt : k < n := by omega
    by_cases hkm : k < mi
    · have hki : (k : Int) < (n : Int) := by omega
      have hcg : Chg [lg] ws wr := by obtain ⟨_, _, _, _, h, _⟩ := hL; exact h
      have hTw := HT.out.kept hcg (by simp)
      have kr := hTw.row k hlt
      obtain ⟨e1, e2, e3, e4⟩ := hTw.ent k hlt
      by_cases h3 : ((sps k).kind % 3 == 0) = true
      · rw [is_up _ h3] at e2
        cases hh : (sps k).has
        · have A := answers_nil (e k) wr e2 (e3 hh)
          have hcl : callsTo sps (k + 1) = callsTo sps k := by simp [callsTo, ansB, hh]
          have HL : Hid (LogAt ws wr lg (callsTo sps (k + 1))) := by rw [hcl]; exact hL
          clear hL hcg hTw e1 e2 e3 e4 h3 hh hcl
          go_wp2_with fail
          refine A.mono ?_
          rintro x w5 ⟨rfl, rfl⟩
          go_wp2
          go_roundw
          case rel => exact ⟨k + 1, by omega, by go_num, HL.out⟩
          case measure => simp [intOf]; omega
        · obtain ⟨ib, mb, sb, n1, n2, n3, d1, d2, d3, d4⟩ := (HT.out.ent k hlt).2.2.2 hh
          have c1 := hcg.cell d1 (by simpa using (HT.out.ent k hlt).1)
          have A := answers_on (e k) _ _ _ wr e2 c1
          have hans : ansB (sps k) = true := by simp [ansB, h3, hh]
          have HCL : Hid (callsTo sps (k + 1) = callsTo sps k ++ [(k : Int)]) := by simp [Hid, callsTo, hans]
          have hm := HN.out k hkm hans
          have hnl : w.heap.size ≠ lg := by have := hlgw.out; omega
          have q0 : wr.cell? ⟨w.heap.size, 0, none⟩ = some (.string m) := hcg.cell R0.out (by simpa using hnl)
          have q1 : wr.cell? ⟨w.heap.size, 1, none⟩ = some (.string p) := hcg.cell R1.out (by simpa using hnl)
          have B := fun W hW => answer_no m p (sps k).meth ws lg ib mb sb (callsTo sps k) (k : Int) (sps k).st W hW (by omega) d2 d3 d4 n1 n2 n3 hm
          have HB : Hid (∀ W, LogAt ws W lg (callsTo sps k) → _) := B
          have HL : Hid (LogAt ws wr lg (callsTo sps k)) := hL
          have hl5 : wr.heap.size ≠ lg := by have := hlgw.out; have := hcg.size; have := HC.out.size; omega
          have hs5 : ws.heap.size ≤ wr.heap.size := hcg.size
          have hq5 : w.heap.size < wr.heap.size := World.block_lt_of_cell? wr _ q0
          have he5 : e k < wr.heap.size := World.block_lt_of_cell? wr _ c1
          have hqn : ¬ w.heap.size = wr.heap.size := by omega
          have hen : ¬ e k = wr.heap.size := by omega
          have HS : Hid (∀ W, LogAt ws W lg (callsTo sps k ++ [(k : Int)]) → W.cell? ⟨e k, 15, none⟩ = some (.func (.func 4) #[] #[.pointer (some ⟨lg, 0, none⟩), .pointer (some ⟨ib, 0, none⟩), .pointer (some ⟨mb, 0, none⟩), .pointer (some ⟨sb, 0, none⟩)]) ∧ W.cell? ⟨w.heap.size, 0, none⟩ = some (.string m) ∧ W.cell? ⟨w.heap.size, 1, none⟩ = some (.string p)) := by
            intro W hW
            obtain ⟨_, _, _, _, hg, _⟩ := hW
            exact ⟨hg.cell d1 (by simpa using (HT.out.ent k hlt).1), hg.cell R0.out (by simpa using hnl), hg.cell R1.out (by simpa using hnl)⟩
          clear hL hcg hTw e1 e2 e3 e4 h3 hh B hm d1 d2 d3 d4 n1 n2 n3 hnl hans
          go_wp2_with fail
          refine A.mono ?_
          rintro x w5 ⟨rfl, rfl⟩
          go_wp2_with fail
          go_region_held3 (fun w' => w'.cell? ⟨e k, 15, none⟩ = some (.func (.func 4) #[] #[.pointer (some ⟨lg, 0, none⟩), .pointer (some ⟨ib, 0, none⟩), .pointer (some ⟨mb, 0, none⟩), .pointer (some ⟨sb, 0, none⟩)]) ∧ w'.cell? ⟨w.heap.size, 0, none⟩ = some (.string m) ∧ w'.cell? ⟨w.heap.size, 1, none⟩ = some (.string p)) (first | go_keep | exact ⟨cell_two s1 hen, cell_two s2 hqn, cell_two s3 hqn⟩)
            (first
            | (go_at_call 4; refine (HB.out _ ?_).mono ?_; exact HL.out.drew; rintro x w6 ⟨rfl, hL6, hK6⟩; obtain ⟨s1, s2, s3⟩ := HS.out w6 hL6; have G6 : Hid (∀ o, LogAt ws (w6.alloc o) lg (callsTo sps k ++ [(k : Int)])) := fun o => hL6.alloc o; clear hK6)
            | (go_at_call 4; refine (HB.out _ ?_).mono ?_; exact (HL.out.alloc _).drew; rintro x w6 ⟨rfl, hL6, hK6⟩; have f4 := hK6 w5.heap.size _ _ _ (heap_alloc_new w5 _) (by decide) hl5; have f0 := blk_cell f4 0; have f1 := blk_cell f4 1; have f2 := blk_frozen f4 0; have f3 := blk_frozen f4 1; obtain ⟨s1, s2, s3⟩ := HS.out w6 hL6; have G6 : Hid (∀ a b, LogAt ws ((w6.setCell ⟨w5.heap.size, 0, none⟩ a).setCell ⟨w5.heap.size, 1, none⟩ b) lg (callsTo sps k ++ [(k : Int)])) := fun a b => hL6.set2 f4 (by decide) hl5 hs5 a b; clear f4 hK6))
          all_goals
            go_wp2
            go_roundw
            case rel => exact ⟨k + 1, by omega, by go_num, by rw [HCL.out]; first | exact G6.out _ | exact G6.out _ _⟩
            case measure => simp [intOf]; omega
      · have h3' : ((sps k).kind % 3 == 0) = false := by simpa using h3
        have A := answers_off (e k) _ wr e2 (not_up _ h3')
        have hcl : callsTo sps (k + 1) = callsTo sps k := by simp [callsTo, ansB, h3']
        have HL : Hid (LogAt ws wr lg (callsTo sps (k + 1))) := by rw [hcl]; exact hL
        clear hL hcg hTw e1 e2 e3 e4 h3 h3' hcl
        go_wp2_with fail
        refine A.mono ?_
        rintro x w5 ⟨rfl, rfl⟩
        go_wp2
        go_roundw
        case rel => exact ⟨k + 1, by omega, by go_num, HL.out⟩
        case measure => simp [intOf]; omega
    · obtain rfl : k = mi := by omega
      have hki : (k : Int) < (n : Int) := by omega
      have hcg : Chg [lg] ws wr := by obtain ⟨_, _, _, _, h, _⟩ := hL; exact h
      have hTw := HT.out.kept hcg (by simp)
      have kr := hTw.row k hlt
      obtain ⟨e1, e2, e3, e4⟩ := hTw.ent k hlt
      have hma' := hma
      simp only [ansB, Bool.and_eq_true] at hma'
      rw [is_up _ hma'.1] at e2
      obtain ⟨ib, mb, sb, n1, n2, n3, d1, d2, d3, d4⟩ := (HT.out.ent k hlt).2.2.2 hma'.2
      have c1 := hcg.cell d1 (by simpa using (HT.out.ent k hlt).1)
      have A := answers_on (e k) _ _ _ wr e2 c1
      have HCL : Hid (callsTo sps (k + 1) = callsTo sps k ++ [(k : Int)]) := by simp [Hid, callsTo, hma]
      have hm := hmm
      have hrl : w.heap.size + 1 ≠ lg := by have := hlgw.out; omega
      have hsz : ws.heap.size = w.heap.size + 2 := by rw [HW.out]; simp
      have HRW : Hid (∀ W, LogAt ws W lg (callsTo sps k ++ [(k : Int)]) → W.heap[w.heap.size + 1]? = some (.cells #[.int .i64 0, .string ⟨#[]⟩] 48 (0, 0))) := by
        intro W hW
        obtain ⟨_, _, _, _, hg, _⟩ := hW
        rw [hg.block _ (by omega) (by simpa using hrl)]
        exact HRB.out
      have HFF : Hid (∀ W, LogAt ws W lg (callsTo sps k ++ [(k : Int)]) → ∀ a b, LogAt w ((W.setCell ⟨w.heap.size + 1, 0, none⟩ a).setCell ⟨w.heap.size + 1, 1, none⟩ b) lg (callsTo sps k ++ [(k : Int)]) ∧ ((W.setCell ⟨w.heap.size + 1, 0, none⟩ a).setCell ⟨w.heap.size + 1, 1, none⟩ b).cell? ⟨w.heap.size + 1, 0, none⟩ = some a ∧ ((W.setCell ⟨w.heap.size + 1, 0, none⟩ a).setCell ⟨w.heap.size + 1, 1, none⟩ b).cell? ⟨w.heap.size + 1, 1, none⟩ = some b) :=
        fun W hW a b => log_final HC.out hW hlgw.out (by omega) hrl (HRW.out W hW) a b
      have hs55 : w.heap.size + 1 < wr.heap.size := by have := hcg.size; omega
      clear hma' hma hmm hsz
      have hnl : w.heap.size ≠ lg := by have := hlgw.out; omega
      have q0 : wr.cell? ⟨w.heap.size, 0, none⟩ = some (.string m) := hcg.cell R0.out (by simpa using hnl)
      have q1 : wr.cell? ⟨w.heap.size, 1, none⟩ = some (.string p) := hcg.cell R1.out (by simpa using hnl)
      have B := fun W hW => answer_yes m p (sps k).meth ws lg ib mb sb (callsTo sps k) (k : Int) (sps k).st W hW (by omega) d2 d3 d4 n1 n2 n3 hm
      have HB : Hid (∀ W, LogAt ws W lg (callsTo sps k) → _) := B
      have HL : Hid (LogAt ws wr lg (callsTo sps k)) := hL
      have hl5 : wr.heap.size ≠ lg := by have := hlgw.out; have := hcg.size; have := HC.out.size; omega
      have hs5 : ws.heap.size ≤ wr.heap.size := hcg.size
      have hq5 : w.heap.size < wr.heap.size := World.block_lt_of_cell? wr _ q0
      have he5 : e k < wr.heap.size := World.block_lt_of_cell? wr _ c1
      have hqn : ¬ w.heap.size = wr.heap.size := by omega
      have hen : ¬ e k = wr.heap.size := by omega
      have HS : Hid (∀ W, LogAt ws W lg (callsTo sps k ++ [(k : Int)]) → W.cell? ⟨e k, 15, none⟩ = some (.func (.func 4) #[] #[.pointer (some ⟨lg, 0, none⟩), .pointer (some ⟨ib, 0, none⟩), .pointer (some ⟨mb, 0, none⟩), .pointer (some ⟨sb, 0, none⟩)]) ∧ W.cell? ⟨w.heap.size, 0, none⟩ = some (.string m) ∧ W.cell? ⟨w.heap.size, 1, none⟩ = some (.string p)) := by
        intro W hW
        obtain ⟨_, _, _, _, hg, _⟩ := hW
        exact ⟨hg.cell d1 (by simpa using (HT.out.ent k hlt).1), hg.cell R0.out (by simpa using hnl), hg.cell R1.out (by simpa using hnl)⟩
      clear hL hcg hTw e1 e2 e3 e4 B d1 d2 d3 d4 n1 n2 n3 hnl
      go_wp2_with fail
      refine A.mono ?_
      rintro x w5 ⟨rfl, rfl⟩
      go_wp2_with fail
      go_region_held3 (fun w' => w'.cell? ⟨e k, 15, none⟩ = some (.func (.func 4) #[] #[.pointer (some ⟨lg, 0, none⟩), .pointer (some ⟨ib, 0, none⟩), .pointer (some ⟨mb, 0, none⟩), .pointer (some ⟨sb, 0, none⟩)]) ∧ w'.cell? ⟨w.heap.size, 0, none⟩ = some (.string m) ∧ w'.cell? ⟨w.heap.size, 1, none⟩ = some (.string p)) (first | go_keep | exact ⟨cell_two s1 hen, cell_two s2 hqn, cell_two s3 hqn⟩)
        (first
        | (go_at_call 4; refine (HB.out _ ?_).mono ?_; exact HL.out.drew; rintro x w6 ⟨rfl, hL6, hK6⟩; obtain ⟨s1, s2, s3⟩ := HS.out w6 hL6; have G6 : Hid (∀ o, LogAt ws (w6.alloc o) lg (callsTo sps k ++ [(k : Int)])) := fun o => hL6.alloc o; clear hK6)
        | (go_at_call 4; refine (HB.out _ ?_).mono ?_; exact (HL.out.alloc _).drew; rintro x w6 ⟨rfl, hL6, hK6⟩; have f4 := hK6 w5.heap.size _ _ _ (heap_alloc_new w5 _) (by decide) hl5; have f0 := blk_cell f4 0; have f1 := blk_cell f4 1; have f2 := blk_frozen f4 0; have f3 := blk_frozen f4 1; obtain ⟨s1, s2, s3⟩ := HS.out w6 hL6; have G6 : Hid (∀ a b, LogAt ws ((w6.setCell ⟨w5.heap.size, 0, none⟩ a).setCell ⟨w5.heap.size, 1, none⟩ b) lg (callsTo sps k ++ [(k : Int)])) := fun a b => hL6.set2 f4 (by decide) hl5 hs5 a b; clear f4 hK6))
      · have qb := HRW.out w6 hL6
        have q0' := blk_cell qb 0
        have q1' := blk_cell qb 1
        have qf0 := blk_frozen qb 0
        have qf1 := blk_frozen qb 1
        have qw : w.heap.size + 1 < w6.heap.size := World.block_lt_of_cell? w6 _ (by simpa using q0')
        obtain ⟨E1, E2, E3⟩ := HFF.out w6 hL6 (.int .i64 (sps k).st) (.string p)
        have F2 := fun o => ((Chg.refl [] _).alloc o).cell E2 (by simp)
        have F3 := fun o => ((Chg.refl [] _).alloc o).cell E3 (by simp)
        have HE : Hid (∀ o, LogAt w (((w6.setCell ⟨w.heap.size + 1, 0, none⟩ (.int .i64 (sps k).st)).setCell ⟨w.heap.size + 1, 1, none⟩ (.string p)).alloc o) lg (callsTo sps k ++ [(k : Int)])) := fun o => E1.alloc o
        have HF2 : Hid (∀ o, (((w6.setCell ⟨w.heap.size + 1, 0, none⟩ (.int .i64 (sps k).st)).setCell ⟨w.heap.size + 1, 1, none⟩ (.string p)).alloc o).cell? ⟨w.heap.size + 1, 0, none⟩ = some (.int .i64 (sps k).st)) := F2
        have HF3 : Hid (∀ o, (((w6.setCell ⟨w.heap.size + 1, 0, none⟩ (.int .i64 (sps k).st)).setCell ⟨w.heap.size + 1, 1, none⟩ (.string p)).alloc o).cell? ⟨w.heap.size + 1, 1, none⟩ = some (.string p)) := F3
        clear qb E1 E2 E3 F2 F3 hL6 G6
        go_wp2
        have g2 := HF2.out
        have g3 := HF3.out
        rw [HCL.out]
        exact bodyPost_ret (v := .tuple #[.agg #[.int .i64 (sps k).st, .string p], .bool true]) (by simp [results, Yba.results5, go_sem, g2, g3]) rfl ⟨rfl, HE.out _⟩
      · have HG := G6.out (.int .i64 (sps k).st) (.string p)
        have qb := HRW.out _ HG
        have q0' := blk_cell qb 0
        have q1' := blk_cell qb 1
        have qf0 := blk_frozen qb 0
        have qf1 := blk_frozen qb 1
        obtain ⟨E1, E2, E3⟩ := HFF.out _ HG (.int .i64 (sps k).st) (.string p)
        have HE := hidMk E1
        have HF2 := hidMk E2
        have HF3 := hidMk E3
        clear qb E1 E2 E3 hL6 G6 HG
        go_wp2
        have g2 := HF2.out
        have g3 := HF3.out
        rw [HCL.out]
        exact bodyPost_ret (v := .tuple #[.agg #[.int .i64 (sps k).st, .string p], .bool true]) (by simp [results, Yba.results5, go_sem, g2, g3]) rfl ⟨rfl, HE.out⟩

end Go.Proofs.Ybulkcvko
