/-
  A SLICE OF BYTES THAT THE CALL OWNS: the library's laws on make, append and string(b), at this program's []byte (type 24 over type 5).
-/
import Derived.Test.Qxb6600505aChecked
import Derived.WalkKit
import Derived.ProofKit
import Derived.WalkSpells
import Derived.Lib.AppendStr
import Derived.Laws.IdiomStrings
import Derived.Deep.Draws
namespace Go.Proofs.Qxb6600505a
open Go.ChangeShapes Go.WideShapes Go.ChangeAt Go.RowKit

theorem Try.info5 : (Try.prog.info? 5).map (fun i => (i.zero, i.size, i.bytes)) = some (some (.int .u8 0), 1, 1) := by kernel_rfl

/-- The bytes as cells. -/
def byteCells (l : List UInt8) : List Value := l.map fun b => Value.int .u8 b.toNat

theorem byteCells_length (l : List UInt8) : (byteCells l).length = l.length := List.length_map _
theorem byteCells_append (l m : List UInt8) : byteCells (l ++ m) = byteCells l ++ byteCells m := List.map_append
theorem byteCells_one (l : List UInt8) : ∀ u ∈ byteCells l, u.oneCell' = true := by
  intro u hu
  obtain ⟨b, _, rfl⟩ := List.mem_map.mp hu
  rfl

/-- v is a []byte of the call's own (blocks from B on) that reads l. -/
def Owns (w : World) (B : Nat) (v : Value) (l : List UInt8) : Prop := w.ownsRow B 5 1 v l.length (byteCells l)

theorem Owns.alloc {w : World} {B : Nat} {v : Value} {l : List UInt8} (h : Owns w B v l) (o : Obj) : Owns (w.alloc o) B v l := World.ownsRow.alloc h o
theorem Owns.drew {w : World} {B : Nat} {v : Value} {l : List UInt8} (h : Owns w B v l) : Owns w.drew B v l := h
theorem Owns.drewN {w : World} {B : Nat} {v : Value} {l : List UInt8} (h : Owns w B v l) (n : Nat) : Owns (w.drewN n) B v l := h

theorem Owns.block {w : World} {B : Nat} {v : Value} {l : List UInt8} (h : Owns w B v l) : ∀ k, v.ownBlock = some k → B ≤ k := by
  intro k hk
  rcases h.2 with ⟨rfl, _⟩ | ⟨g, cap, cur, rfl, hg, _⟩
  · simp [Value.ownBlock] at hk
  · simp [Value.ownBlock] at hk; omega

theorem addr_add (g j : Nat) : (⟨g, 0, none⟩ : Addr).add j = ⟨g, j, none⟩ := by
  cases j <;> simp [Addr.add]

/-- append(v, news...), the news in a row of the call's own. -/
theorem wpList_app {w : World} {ops : Array Oper} {rest : List Oper} {o : Oper} {a : Act} {Q : Exit → Act → World → Prop} (hgd : o.guard = none) (s x : Operand)
    (ho : o.op = .call { callee := .builtin .append, args := #[s, x], argTypes := #[24, 24] })
    (B : Nat) (v : Value) (l news : List UInt8) (hs : a.eval s = v) (hown : Owns w B v l) (g m : Nat) (hm : m = news.length) (hx : a.eval x = .slice (some ⟨g, 0, none⟩) m m)
    (hnews : ∀ j u, (byteCells news)[j]? = some u → w.cell? ⟨g, j, none⟩ = some u) (hlen : l.length + news.length ≤ 4000000) (hbase : B ≤ w.heap.size)
    (h : ∀ v' w', Owns w' B v' (l ++ news) → Below B w w' → wpList Try.prog ops Q rest (a.put o.dst v') w') : wpList Try.prog ops Q (o :: rest) a w := by
  obtain ⟨i, hi, hz0, hz1, hz2⟩ := info_parts Try.info5
  refine wpList_append_own w hgd s x 24 ho B 5 i (.int .u8 0) 1 1 Try.underlying24 hi hz0 hz1 hz2 rfl (by decide) v l.length (byteCells l) hs hown ⟨g, 0, none⟩ m m (byteCells news) hx
    (by rw [byteCells_length, hm, Nat.mul_one]) (fun j u hj => by rw [addr_add]; exact hnews j u hj) (byteCells_one _) (by unfold maxLen; omega) (by omega) hbase ?_
  intro v' w' h1 h2 _
  refine h v' w' ?_ ((Below.refl _ _).grown h2 hbase hown.block)
  unfold Owns
  rw [byteCells_append, List.length_append, ← hm]
  exact h1

/-- The same as one step of a region that draws its order. -/
theorem step_app {w : World} {ops : Array Oper} {o : Oper} {a : Act} {K : Act → World → Prop} {Q : Exit → Act → World → Prop} {E : Prop} (hgd : o.guard = none) (s x : Operand)
    (ho : o.op = .call { callee := .builtin .append, args := #[s, x], argTypes := #[24, 24] })
    (B : Nat) (v : Value) (l news : List UInt8) (hs : a.eval s = v) (hown : Owns w B v l) (g m : Nat) (hm : m = news.length) (hx : a.eval x = .slice (some ⟨g, 0, none⟩) m m)
    (hnews : ∀ j u, (byteCells news)[j]? = some u → w.cell? ⟨g, j, none⟩ = some u) (hlen : l.length + news.length ≤ 4000000) (hbase : B ≤ w.heap.size)
    (h : ∀ v' w', Owns w' B v' (l ++ news) → Below B w w' → K (a.put o.dst v') w') : if Region.wanted o (yielded ops a.tmps) = true then Oper.wp Try.prog o a w K Q else E := by
  have hw : Region.wanted o (yielded ops a.tmps) = true := by simp [Region.wanted, hgd]
  rw [if_pos hw]
  obtain ⟨i, hi, hz0, hz1, hz2⟩ := info_parts Try.info5
  refine wp_append_own w s x 24 ho B 5 i (.int .u8 0) 1 1 Try.underlying24 hi hz0 hz1 hz2 rfl (by decide) v l.length (byteCells l) hs hown ⟨g, 0, none⟩ m m (byteCells news) hx
    (by rw [byteCells_length, hm, Nat.mul_one]) (fun j u hj => by rw [addr_add]; exact hnews j u hj) (byteCells_one _) (by unfold maxLen; omega) (by omega) hbase ?_
  intro v' w' h1 h2 _
  refine h v' w' ?_ ((Below.refl _ _).grown h2 hbase hown.block)
  unfold Owns
  rw [byteCells_append, List.length_append, ← hm]
  exact h1

/-- append(v, s...), s a string. -/
theorem wpList_app_string {w : World} {ops : Array Oper} {rest : List Oper} {o : Oper} {a : Act} {Q : Exit → Act → World → Prop} (hgd : o.guard = none) (sl x : Operand)
    (ho : o.op = .call { callee := .builtin .append, args := #[sl, x], argTypes := #[24, 9] })
    (B : Nat) (v : Value) (l : List UInt8) (hs : a.eval sl = v) (hown : Owns w B v l) (s : ByteArray) (hx : a.eval x = .string s)
    (hlen : l.length + s.size ≤ 4000000) (hbase : B ≤ w.heap.size)
    (h : ∀ v' w', Owns w' B v' (l ++ s.data.toList) → Below B w w' → wpList Try.prog ops Q rest (a.put o.dst v') w') : wpList Try.prog ops Q (o :: rest) a w := by
  obtain ⟨i, hi, hz0, hz1, hz2⟩ := info_parts Try.info5
  refine Lib.wpList_append_own_string w hgd sl x 24 9 ho B 5 i Try.underlying24 Try.underlying9 hi hz0 hz1 hz2 v l.length (byteCells l) hs hown s hx
    (by unfold maxLen; omega) (by omega) hbase ?_
  intro v' w' h1 h2 _
  refine h v' w' ?_ ((Below.refl _ _).grown h2 hbase hown.block)
  unfold Owns
  rw [byteCells_append, List.length_append, Array.length_toList]
  exact h1

/-- make([]byte, 0, n). -/
theorem wpList_mk {w : World} {ops : Array Oper} {rest : List Oper} {o : Oper} {a : Act} {Q : Exit → Act → World → Prop}
    (hg : o.guard = none) (l c : Operand) (hop : o.op = Op.makeSlice 24 l c) (B : Nat) (C : Int) (n : Nat) (hl : a.eval l = .int .i64 0) (hc : a.eval c = .int .i64 C) (hC : C = (n : Int)) (hn : n ≤ 4000000) (hB : B ≤ w.heap.size)
    (h : ∀ v' w', Owns w' B v' [] → Below B w w' → wpList Try.prog ops Q rest (a.put o.dst v') w') : wpList Try.prog ops Q (o :: rest) a w := by
  obtain ⟨i, hi, hz0, hz1, hz2⟩ := info_parts Try.info5
  refine wpList_make_own w hg l c 24 hop B 5 i (.int .u8 0) 1 Try.underlying24 hi hz0 hz1 .i64 .i64 C n hl hc hC (by rw [hz2]; omega) (by unfold maxLen; omega) hB ?_
  intro w' h1 h2
  exact h _ w' h1 ((Below.refl _ _).grown h2 hB (fun k hk => by cases hk))

/-- The cells of a row that has just been laid. -/
theorem new_cells (w : World) (cs : Array Value) (news : List UInt8) (hcs : cs.toList = byteCells news) : ∀ j u, (byteCells news)[j]? = some u → (w.alloc (.cells cs 5)).cell? ⟨w.heap.size, j, none⟩ = some u := by
  intro j u hj
  rw [← hcs] at hj
  rw [World.cell?_alloc_at _ _ _ _ rfl]
  simpa using hj

/-- string(v). -/
theorem run_text {w : World} {B : Nat} {v : Value} {l : List UInt8} (h : Owns w B v l) (hl : l ≠ []) : (convert 24 9 v).run Try.prog w = .ok (.string ⟨l.toArray⟩) w := by
  rcases h.2 with ⟨_, hn⟩ | ⟨g, cap, cur, rfl, hg, hh, hc1, hc2, hsz, hcur⟩
  · exact absurd (List.length_eq_zero_iff.mp hn) hl
  · refine run_convert_bytes_back w 24 9 5 ⟨g, 0, none⟩ cap l Try.underlying24 Try.underlying5 Try.underlying9 (fun j hj => ?_)
    have := World.ownsRow.cellAt h j (by omega)
    rw [addr_add, this]
    simp [byteCells, hj]

end Go.Proofs.Qxb6600505a
