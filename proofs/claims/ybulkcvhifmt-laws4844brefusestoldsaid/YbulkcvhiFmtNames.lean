/-
  Seat b4844aF: the names, and what expect says of a reference.
-/
import Derived.Test.YbulkcvhiFmtExpect
import Derived.Test.YbulkcvhiFmtById
namespace Go.Proofs.YbulkcvhiFmt
open Go.RowKit Go.Extern.Stop Go.Stop Go.Extern
set_option linter.unusedVariables false

abbrev sDM : ByteArray := ⟨#[68, 105, 103, 101, 115, 116, 77, 101, 116, 104, 111, 100]⟩
abbrev sDV : ByteArray := ⟨#[68, 105, 103, 101, 115, 116, 86, 97, 108, 117, 101]⟩
abbrev sTS : ByteArray := ⟨#[84, 114, 97, 110, 115, 102, 111, 114, 109, 115]⟩
abbrev sTF : ByteArray := ⟨#[84, 114, 97, 110, 115, 102, 111, 114, 109]⟩
abbrev sRef : ByteArray := ⟨#[82, 101, 102, 101, 114, 101, 110, 99, 101]⟩
abbrev sURI : ByteArray := ⟨#[85, 82, 73]⟩
abbrev sHash : ByteArray := ⟨#[35]⟩
abbrev sObj : ByteArray := ⟨#[111, 98, 106]⟩
abbrev sHObj : ByteArray := ⟨#[35, 111, 98, 106]⟩
abbrev cC14 : ByteArray := ⟨#[104, 116, 116, 112, 58, 47, 47, 119, 119, 119, 46, 119, 51, 46, 111, 114, 103, 47, 84, 82, 47, 50, 48, 48, 49, 47, 82, 69, 67, 45, 120, 109, 108, 45, 99, 49, 52, 110, 45, 50, 48, 48, 49, 48, 51, 49, 53]⟩
abbrev cRSA : ByteArray := ⟨#[104, 116, 116, 112, 58, 47, 47, 119, 119, 119, 46, 119, 51, 46, 111, 114, 103, 47, 50, 48, 48, 49, 47, 48, 52, 47, 120, 109, 108, 100, 115, 105, 103, 45, 109, 111, 114, 101, 35, 114, 115, 97, 45, 115, 104, 97, 50, 53, 54]⟩
abbrev cSHA : ByteArray := ⟨#[104, 116, 116, 112, 58, 47, 47, 119, 119, 119, 46, 119, 51, 46, 111, 114, 103, 47, 50, 48, 48, 49, 47, 48, 52, 47, 120, 109, 108, 101, 110, 99, 35, 115, 104, 97, 50, 53, 54]⟩

def dmNd (alg : ByteArray) : Nd := ⟨sDM, some (ALG, alg), NS⟩
def dvNd : Nd := ⟨sDV, none, NS⟩
def tsNd : Nd := ⟨sTS, none, NS⟩
def tfNd : Nd := ⟨sTF, some (ALG, cC14), NS⟩
def refNd (uri : ByteArray) : Nd := ⟨sRef, some (sURI, uri), NS⟩

/-- The two kids of a plain reference. -/
def plainKs (alg : ByteArray) (dm dv : Nat) : List Kid := [(dm, dmNd alg, []), (dv, dvNd, [])]
def transKs (alg : ByteArray) (ts tf dm dv : Nat) : List Kid := [(ts, tsNd, [tf]), (dm, dmNd alg, []), (dv, dvNd, [])]

theorem expK_plain (uri alg : ByteArray) (dm dv : Nat) : expK (refNd uri) sRef [sDM, sDV] ⟨#[]⟩ (plainKs alg dm dv) = true := by kernel_rfl
theorem expK_trans (uri alg : ByteArray) (ts tf dm dv : Nat) : expK (refNd uri) sRef [sTS, sDM, sDV] ⟨#[]⟩ (transKs alg ts tf dm dv) = true := by kernel_rfl
theorem expK_ts (tf : Nat) : expK tsNd sTS [sTF] ⟨#[]⟩ [(tf, tfNd, [])] = true := by kernel_rfl
theorem algB_dm_ok : algB (dmNd cSHA) [] cSHA = true := by kernel_rfl
theorem algB_tf : algB tfNd [] cC14 = true := by kernel_rfl
theorem uri_of (uri : ByteArray) : attrOf (refNd uri) sURI = some uri := by kernel_rfl
theorem cells2 {w : World} {cb : Nat} {a b : ByteArray} (h : w.heap[cb]? = some (.cells #[.string a, .string b] 9 (0, 0))) : ∀ j x, [a, b][j]? = some x → w.cell? ⟨cb, 0 + j, none⟩ = some (.string x) := by
  intro j x hj
  rw [Nat.zero_add]
  match j, hj with
  | 0, hj => simp at hj; subst hj; simp [World.cell?, h]
  | 1, hj => simp at hj; subst hj; simp [World.cell?, h]
theorem neDM : (sDM.toList == []) = false := by kernel_rfl
theorem neDV : (sDV.toList == []) = false := by kernel_rfl
theorem neTS : (sTS.toList == []) = false := by kernel_rfl
theorem neTF : (sTF.toList == []) = false := by kernel_rfl
theorem ne2 : ∀ (j : Nat) (x : ByteArray), [sDM, sDV][j]? = some x → (x.toList == []) = false := by
  intro j x hj
  match j, hj with
  | 0, hj => simp at hj; subst hj; first | exact neDM | exact neDV | exact neTS | exact neTF
  | 1, hj => simp at hj; subst hj; first | exact neDM | exact neDV | exact neTS | exact neTF
theorem ne3 : ∀ (j : Nat) (x : ByteArray), [sTS, sDM, sDV][j]? = some x → (x.toList == []) = false := by
  intro j x hj
  match j, hj with
  | 0, hj => simp at hj; subst hj; first | exact neDM | exact neDV | exact neTS | exact neTF
  | 1, hj => simp at hj; subst hj; first | exact neDM | exact neDV | exact neTS | exact neTF
  | 2, hj => simp at hj; subst hj; first | exact neDM | exact neDV | exact neTS | exact neTF
theorem ne1 : ∀ (j : Nat) (x : ByteArray), [sTF][j]? = some x → (x.toList == []) = false := by
  intro j x hj
  match j, hj with
  | 0, hj => simp at hj; subst hj; first | exact neDM | exact neDV | exact neTS | exact neTF
theorem join2 : (Lib.join ([sDM, sDV].map (·.data.toList)) [44, 32]).length ≤ 140737488355328 := of_decide_eq_true (by kernel_rfl)
theorem join3 : (Lib.join ([sTS, sDM, sDV].map (·.data.toList)) [44, 32]).length ≤ 140737488355328 := of_decide_eq_true (by kernel_rfl)
theorem join1 : (Lib.join ([sTF].map (·.data.toList)) [44, 32]).length ≤ 140737488355328 := of_decide_eq_true (by kernel_rfl)
theorem cut_hash : Lib.trimPrefix sHObj.data.toList sHash.data.toList = sObj.data.toList ∧ Lib.hasPrefix sHObj.data.toList sHash.data.toList = true := by constructor <;> kernel_rfl

/-! A variable of three cells. -/
def Var3 (w : World) (b : Nat) (x y z : Value) : Prop := w.heap[b]? = some (.cells #[x, y, z] 41 (0, 0))
theorem Var3.kept {w w' : World} {b : Nat} {x y z : Value} (h : Var3 w b x y z) (hc : Chg [] w w') : Var3 w' b x y z := hc.obj h (by simp)
theorem obj_set {w : World} {b i : Nat} {c : Array Value} {t : TypeId} {f : Nat × Nat} (h : w.heap[b]? = some (.cells c t f)) (v : Value) : (w.setCell ⟨b, i, none⟩ v).heap[b]? = some (.cells (c.setIfInBounds i v) t f) := by
  simp only [World.setCell, Array.getElem?_modify, if_pos, h, Option.map_some]
  rfl
theorem obj_set_other {w : World} {b b' i : Nat} {o : Obj} (h : w.heap[b]? = some o) (hne : b' ≠ b) (v : Value) : (w.setCell ⟨b', i, none⟩ v).heap[b]? = some o := by
  simp only [World.setCell, Array.getElem?_modify, if_neg hne, h]
theorem Var3.set0 {w : World} {b : Nat} {x y z : Value} (h : Var3 w b x y z) (v : Value) : Var3 (w.setCell ⟨b, 0, none⟩ v) b v y z := obj_set h v
theorem Var3.set1 {w : World} {b : Nat} {x y z : Value} (h : Var3 w b x y z) (v : Value) : Var3 (w.setCell ⟨b, 1, none⟩ v) b x v z := obj_set h v
theorem Var3.other {w : World} {b b' i : Nat} {x y z : Value} (h : Var3 w b x y z) (hne : b' ≠ b) (v : Value) : Var3 (w.setCell ⟨b', i, none⟩ v) b x y z := obj_set_other h hne v
theorem Var3.alloc {w : World} {b : Nat} {x y z : Value} (h : Var3 w b x y z) (o : Obj) : Var3 (w.alloc o) b x y z := ((Chg.refl [] w).alloc o).obj h (by simp)
theorem Var3.new (w : World) (x y z : Value) : Var3 (w.alloc (.cells #[x, y, z] 41)) w.heap.size x y z := heap_alloc_new _ _
theorem Var3.lt {w : World} {b : Nat} {x y z : Value} (h : Var3 w b x y z) : b < w.heap.size := (Array.getElem?_eq_some_iff.1 h).1
theorem Var3.cells {w : World} {b : Nat} {x y z : Value} (h : Var3 w b x y z) : w.cell? ⟨b, 0, none⟩ = some x ∧ w.cell? ⟨b, 1, none⟩ = some y ∧ w.cell? ⟨b, 2, none⟩ = some z ∧
    w.frozen? ⟨b, 0, none⟩ = false ∧ w.frozen? ⟨b, 1, none⟩ = false ∧ w.frozen? ⟨b, 2, none⟩ = false := by
  have h' : w.heap[b]? = some (.cells #[x, y, z] 41 (0, 0)) := h
  refine ⟨?_, ?_, ?_, ?_, ?_, ?_⟩ <;> simp [World.cell?, World.frozen?, h']

end Go.Proofs.YbulkcvhiFmt
