/-
  ONE BYTE MORE, AND THE TEXT OF THE BYTES (seat b6602738a): append and string(b) on a row of the call's own.
-/
import Derived.Test.Qxb6602738aReadQuoted
import Derived.Laws.IdiomStrings
import Derived.Laws.BytesString
set_option linter.unusedVariables false
namespace Go.Proofs.Qxb6602738a
open Go.RowKit Quoted

/-- 'v' holds the bytes 'acc', in a row of the call's own. -/
def Bytes (B : Nat) (v : Value) (acc : List UInt8) (w : World) : Prop := w.ownsRow B 5 1 v acc.length (Lib.byteCells acc)

theorem bytes_nil (B : Nat) (w : World) : Bytes B (.slice none 0 0) [] w := World.ownsRow_nil _ _ _ _

theorem wp_push {ops : Array Oper} {rest : List Oper} {o : Oper} {a : Act} {Q : Exit → Act → World → Prop} (hgd : o.guard = none) (s x : Operand)
    (ho : o.op = .call { callee := .builtin .append, args := #[s, x], argTypes := #[52, 52] }) {B : Nat} {acc : List UInt8} {w wr : World} (v : Value) (hs : a.eval s = v)
    (hown : Bytes B v acc wr) (hbl : Below B w wr) (hB : B ≤ w.heap.size) (c : Int) (b : UInt8) (hc : c = (b.toNat : Int)) (hx : a.eval x = .slice (some ⟨wr.heap.size, 0, none⟩) 1 1) (hl : acc.length ≤ 4194304)
    (h : ∀ v' w', Bytes B v' (acc ++ [b]) w' → Below B w w' → wpList Try.prog ops Q rest (a.put o.dst v') w') : wpList Try.prog ops Q (o :: rest) a (wr.alloc (.cells #[.int .u8 c] 5)) := by
  obtain ⟨i0, hi, hz0, hz1, hz2⟩ := info_parts Try.Builder_Extra_169.infoByte
  have hsz := hbl.size
  refine wpList_append_own _ hgd s x 52 ho B 5 i0 (.int .u8 0) 1 1 Try.underlying52 hi hz0 hz1 hz2 rfl (by decide) v acc.length (Lib.byteCells acc) hs (hown.alloc _) ⟨wr.heap.size, 0, none⟩ 1 1 [.int .u8 c] hx rfl ?c1 ?c2 ?c3 ?c4 ?c5 ?_
  case c1 =>
    intro j u hj
    match j, hj with
    | 0, hj => simp at hj; subst hj; simp [Addr.add]
  case c2 => intro u hu; simp at hu; subst hu; rfl
  case c3 => unfold maxLen; omega
  case c4 => omega
  case c5 => simp; omega
  intro v' w2 hown' hgrow _
  refine h v' w2 ?_ ((hbl.alloc (by omega) _).grown hgrow (by simp; omega) (fun k hk => (hown.lt k hk).1))
  unfold Bytes
  rw [← cells_more, ← hc, List.length_append]
  exact hown'

theorem run_text {B : Nat} {v : Value} {acc : List UInt8} {w : World} (h : Bytes B v acc w) : (convert 52 9 v).run Try.prog w = .ok (.string ⟨acc.toArray⟩) w := by
  obtain ⟨hl, ⟨rfl, h0⟩ | ⟨g, cap, cur, rfl, hB, hg, hn, hm, hsz, htk⟩⟩ := h
  · rw [List.eq_nil_of_length_eq_zero h0]
    rw [run_convert_bytes_string w 52 9 5 none 0 0 Try.underlying52 Try.underlying5 Try.underlying9]; rfl
  · refine run_convert_bytes_back w 52 9 5 ⟨g, 0, none⟩ cap acc Try.underlying52 Try.underlying5 Try.underlying9 (fun j hj => ?_)
    rw [Addr.add_lit, Lib.cell_of_heap hg]
    have h1 : (cur.toList.take (acc.length * 1))[j]? = (Lib.byteCells acc)[j]? := by rw [htk]
    rw [List.getElem?_take, if_pos (by omega)] at h1
    rw [Nat.zero_add, ← Array.getElem?_toList, h1]
    simp [Lib.byteCells, List.getElem?_eq_getElem hj]
end Go.Proofs.Qxb6602738a
