/-
  Seat b4844aF: the frame, an element in memory, and the small methods of Element.
-/
import Derived.Test.YbulkcvhiFmtProg
import Derived.WalkKit
import Derived.WalkLawsBesides
import Derived.Outline
import Derived.OwnWalk
import Derived.WalkSpells
import Derived.WideMake
import Derived.Maps.AppendAt
import Derived.Laws.EntriesVeiled
import Derived.Deep.QuietTactic
import Derived.BigQuiet
import Derived.Deep.RegionWith
import Derived.Stop.CallBack
import Derived.Stop.IfaceNil
namespace Go.Proofs.YbulkcvhiFmt
open Go.RowKit Go.Extern.Stop Go.Stop Go.Extern
set_option linter.unusedVariables false

/-- 'w'' is 'w' with new blocks, draws, and changes in the blocks of the list alone. -/
structure Chg (l : List Nat) (w w' : World) : Prop where
  os : w'.os = w.os
  tape : w'.tape = w.tape
  output : w'.output = w.output
  size : w.heap.size ≤ w'.heap.size
  block : ∀ k, k < w.heap.size → k ∉ l → w'.heap[k]? = w.heap[k]?

theorem Chg.refl (l : List Nat) (w : World) : Chg l w w := ⟨rfl, rfl, rfl, Nat.le_refl _, fun _ _ _ => rfl⟩
theorem Chg.trans {l : List Nat} {a b c : World} (h : Chg l a b) (k : Chg l b c) : Chg l a c :=
  ⟨k.os.trans h.os, k.tape.trans h.tape, k.output.trans h.output, Nat.le_trans h.size k.size, fun i hi hl => (k.block i (Nat.lt_of_lt_of_le hi h.size) hl).trans (h.block i hi hl)⟩
theorem Chg.mono {l l' : List Nat} {a b : World} (h : Chg l a b) (hs : ∀ k, k ∈ l → k ∈ l' ∨ a.heap.size ≤ k) : Chg l' a b :=
  ⟨h.os, h.tape, h.output, h.size, fun i hi hl => h.block i hi (fun hm => by rcases hs i hm with h1 | h1; exact hl h1; omega)⟩
theorem Chg.drew {l : List Nat} {a b : World} (h : Chg l a b) : Chg l a b.drew := ⟨h.os, h.tape, h.output, h.size, h.block⟩
theorem Chg.drewN {l : List Nat} {a b : World} (h : Chg l a b) (n : Nat) : Chg l a (b.drewN n) := ⟨h.os, h.tape, h.output, h.size, h.block⟩
theorem Chg.setCell {l : List Nat} {a b : World} (h : Chg l a b) {p : Addr} (hp : p.block ∈ l ∨ a.heap.size ≤ p.block) (v : Value) : Chg l a (b.setCell p v) := by
  refine ⟨h.os, h.tape, h.output, by simpa [World.setCell] using h.size, fun k hk hl => ?_⟩
  have : p.block ≠ k := by
    rintro rfl
    rcases hp with hp | hp
    · exact hl hp
    · omega
  simp only [World.setCell, Array.getElem?_modify, if_neg this]
  exact h.block k hk hl
theorem Chg.ofGrown {l : List Nat} {a b : World} {r : Option Nat} (h : a.grownBy b r) (hr : ∀ k, r = some k → k ∈ l ∨ a.heap.size ≤ k) : Chg l a b :=
  ⟨h.os, h.tape, h.output, h.size, fun k hk hl => h.block k hk (fun e => by rcases hr k e.symm with h1 | h1; exact hl h1; omega)⟩
theorem Chg.alloc {l : List Nat} {a b : World} (h : Chg l a b) (o : Obj) : Chg l a (b.alloc o) :=
  h.trans (Chg.ofGrown (World.grownBy_alloc b o none) (by simp))
theorem Chg.cell {l : List Nat} {a b : World} (h : Chg l a b) {p : Addr} {v : Value} (hc : a.cell? p = some v) (hp : p.block ∉ l) : b.cell? p = some v :=
  (World.cell?_of_block (h.block p.block (World.block_lt_of_cell? a p hc) hp)).trans hc
theorem Chg.frozen {l : List Nat} {a b : World} (h : Chg l a b) {p : Addr} (hlt : p.block < a.heap.size) (hp : p.block ∉ l) : b.frozen? p = a.frozen? p :=
  World.frozen?_of_block (h.block p.block hlt hp)
theorem Chg.below {l : List Nat} {a b : World} (h : Chg l a b) {B : Nat} (hB : B ≤ a.heap.size) (hl : ∀ k, k ∈ l → B ≤ k) : Below B a b :=
  ⟨h.os, h.tape, h.output, h.size, fun k hk => h.block k (by omega) (fun hm => by have := hl k hm; omega)⟩

theorem ownsRow_kept {w w' : World} {l : List Nat} {S e z n : Nat} {v : Value} {xs : List Value} (h : w.ownsRow S e z v n xs) (hc : Chg l w w') (hl : ∀ k, v.ownBlock = some k → k ∉ l) : w'.ownsRow S e z v n xs := by
  refine ⟨h.1, ?_⟩
  rcases h.2 with h | ⟨g, cap, cur, rfl, hb, hg, rest⟩
  · exact .inl h
  · exact .inr ⟨g, cap, cur, rfl, hb, (hc.block g (Array.getElem?_eq_some_iff.1 hg).1 (hl g rfl)).trans hg, rest⟩


/-- The map of an element's namespaces: the default one alone. -/
def scopeObj (sp : ByteArray) : Obj := .map #[⟨.string ⟨#[]⟩, .string sp, 0⟩] 1

theorem mk56 (w : World) : (Instr.makeMap 56 none).run Ybaf.prog w = .ok (.map (some w.heap.size)) (w.alloc (.map #[] 0)) := by kernel_rfl

theorem look56 (w : World) (mb : Nat) (sp : ByteArray) (h : w.heap[mb]? = some (scopeObj sp)) :
    (Instr.lookup 56 (.map (some mb)) (.string ⟨#[]⟩) true).run Ybaf.prog w = .ok (.tuple #[.string sp, .bool true]) w := by
  have hc : (Instr.checkKey false 10000 9 (.string ⟨#[]⟩)).run Ybaf.prog w = .ok () w := by kernel_rfl
  have hf : (Instr.findKey 9 (.string ⟨#[]⟩) [⟨.string ⟨#[]⟩, .string sp, 0⟩]).run Ybaf.prog w = .ok (some (0, .string sp)) w := by kernel_rfl
  have hg := MapKept.run_getObj_map (P := Ybaf.prog) (w := w) (r := mb) h
  simp [Instr.lookup, run_underlying Ybaf.underlying56, hg, hc, hf]

/-- What an element is, its kids aside. -/
structure Nd where
  (name : ByteArray) (attr : Option (ByteArray × ByteArray)) (space : ByteArray)

def nodes (kids : List Nat) : List Value := kids.map fun k => .iface 24 (.pointer (some ⟨k, 0, none⟩))
def ptrs (kids : List Nat) : List Value := kids.map fun k => .pointer (some ⟨k, 0, none⟩)

/-- The attributes' slice in memory. -/
def AttrsAt (w : World) (v : Value) : Option (ByteArray × ByteArray) → Prop
  | none => v = .slice none 0 0
  | some (n, x) => ∃ ab, v = .slice (some ⟨ab, 0, none⟩) 1 1 ∧ w.heap[ab]? = some (.cells #[.string ⟨#[]⟩, .string n, .string x] 46 (0, 0))

/-- The element at block b: its cells but the parent's. -/
structure ElAt (w : World) (b : Nat) (d : Nd) (kids : List Nat) : Prop where
  ty : ∃ c, w.heap[b]? = some (.cells c 59 (0, 0)) ∧ c.size = 6
  c0 : w.cell? ⟨b, 0, none⟩ = some (.string ⟨#[]⟩)
  c1 : w.cell? ⟨b, 1, none⟩ = some (.string d.name)
  c2 : ∃ v, w.cell? ⟨b, 2, none⟩ = some v ∧ AttrsAt w v d.attr
  c3 : ∃ v, w.cell? ⟨b, 3, none⟩ = some v ∧ w.ownsRow 0 69 1 v kids.length (nodes kids)
  c5 : ∃ mb, w.cell? ⟨b, 5, none⟩ = some (.map (some mb)) ∧ w.heap[mb]? = some (scopeObj d.space)

theorem lookup_el (b : Nat) (d : Nd) (kids : List Nat) (w : World) (h : ElAt w b d kids) :
    Calls Ybaf.prog 32 #[.pointer (some ⟨b, 0, none⟩), .string ⟨#[]⟩] w fun e w' => e = .returned (.tuple #[.string d.space, .bool true]) ∧ w' = w := by
  obtain ⟨mb, h5, hm⟩ := h.c5
  have hl := look56 w mb d.space hm
  go_enter Ybaf.func32, Ybaf.ntmps32
  go_wp2
  go_ret2
  exact ⟨rfl, rfl⟩

theorem space_el (b : Nat) (d : Nd) (kids : List Nat) (w : World) (h : ElAt w b d kids) :
    Calls Ybaf.prog 23 #[.pointer (some ⟨b, 0, none⟩)] w fun e w' => e = .returned (.string d.space) ∧ w' = w := by
  have h0 := h.c0
  have HE : Hid (ElAt w b d kids) := h
  go_enter Ybaf.func23, Ybaf.ntmps23
  go_wp2_with (go_at_call 32; refine (lookup_el b d kids w HE.out).mono ?_; rintro e w' ⟨rfl, rfl⟩)
  go_ret
  exact ⟨rfl, rfl⟩

def NS : ByteArray := ⟨#[104, 116, 116, 112, 58, 47, 47, 119, 119, 119, 46, 119, 51, 46, 111, 114, 103, 47, 50, 48, 48, 48, 47, 48, 57, 47, 120, 109, 108, 100, 115, 105, 103, 35]⟩

def isB (d : Nd) (n : ByteArray) : Bool := (d.name.toList == n.toList) && (d.space.toList == NS.toList)

theorem is_el (n : ByteArray) (b : Nat) (d : Nd) (kids : List Nat) (w : World) (h : ElAt w b d kids) :
    Calls Ybaf.prog 15 #[.pointer (some ⟨b, 0, none⟩), .string n] w fun e w' => e = .returned (.bool (isB d n)) ∧ w' = w := by
  have h1 := h.c1
  have HE : Hid (ElAt w b d kids) := h
  cases hn : (d.name.toList == n.toList)
  · go_enter Ybaf.func15, Ybaf.ntmps15
    go_wp2
    go_ret
    exact ⟨by simp [isB, hn], rfl⟩
  · go_enter Ybaf.func15, Ybaf.ntmps15
    go_wp2_with (go_at_call 23; refine (space_el b d kids w HE.out).mono ?_; rintro e w' ⟨rfl, rfl⟩)
    go_ret
    exact ⟨by simp [isB, hn, NS], rfl⟩

theorem qualified_any (n : ByteArray) (w : World) :
    Calls Ybaf.prog 18 #[.string ⟨#[]⟩, .string n] w fun e w' => e = .returned (.string n) ∧ w' = w := by
  go_enter Ybaf.func18, Ybaf.ntmps18
  go_wp2
  go_ret
  exact ⟨rfl, rfl⟩

theorem errors_new (s : ByteArray) (w : World) :
    Calls Ybaf.prog 16 #[.string s] w fun e w' => e = .returned (.iface 72 (.pointer (some ⟨w.heap.size, 0, none⟩))) ∧ w' = w.alloc (.cells #[.string s] 74) := by
  go_enter Ybaf.func16, Ybaf.ntmps16
  go_wp2
  go_ret
  exact ⟨rfl, rfl⟩

end Go.Proofs.YbulkcvhiFmt
