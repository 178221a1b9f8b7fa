/- Owned rows of bytes as inputs and as strings; a guarded append in a region that draws its order. -/
import Derived.Test.YtipoenpakjpokaaGreatDoorBools
import Derived.Laws.BytesArg
import Derived.Deep.RegionHeld3
import Derived.BigRegion
import Derived.Deep.AppendLies
set_option linter.unusedVariables false
set_option linter.unusedSimpArgs false
namespace Go.Proofs.YtipoenpakjpokaaGreatDoor
open Go.RowKit

/-- An owned row of bytes, as a decoder's input. -/
theorem Input.of_row {w : World} {base n : Nat} {v : Value} {bs : List Int} (h : w.ownsRow base 5 1 v n (u8s bs)) (hn : 0 < n) :
    ∃ g c, v = .slice (some ⟨g, 0, none⟩) n c ∧ base ≤ g ∧ g < w.heap.size ∧ Input w g 0 n c bs := by
  obtain ⟨hl, h | ⟨g, cap, cur, hv, hg, hb, hn', hc, hs, ht⟩⟩ := h
  · omega
  · have hlen : bs.length = n := by simpa using hl
    refine ⟨g, cap, hv, hg, sizeOf_blk hb, hlen, hn', hc, fun j hj => ?_⟩
    have h1 : (cur.toList.take (n * 1))[j]? = some (.int .u8 bs[j]) := by rw [ht]; simp [u8s, List.getElem?_eq_getElem hj]
    rw [cellOf hb]
    rw [List.getElem?_take] at h1
    split at h1
    · simpa using h1
    · simp at h1

/-- Bytes as a string. -/
theorem conv_input {w : World} {rb n c : Nat} {bs : List Int} (h : Input w rb 0 n c bs) :
    (convert 22 9 (.slice (some ⟨rb, 0, none⟩) n c)).run Tryz.prog w = .ok (.string (strOfNums bs)) w :=
  run_convert_bytes_arg w 22 5 Tryz.underlying22 Tryz.underlying5 rb 0 n c bs h.len (fun i hi => by
    have := h.cell i (by have := h.len; omega)
    rw [this, List.getD_eq_getElem?_getD, List.getElem?_eq_getElem (by have := h.len; omega)]; rfl) 9 Tryz.underlying9

/-- step_append_lies at a guarded operation that runs. -/
theorem step_append_g {P : Program} {w : World} {ops : Array Oper} {o : Oper} {a : Act} {K : Act → World → Prop} {Q : Exit → Act → World → Prop} {E : Prop} (hw : Region.wanted o (yielded ops a.tmps) = true) (s x : Operand) (t : TypeId)
    (ho : o.op = .call { callee := .builtin .append, args := #[s, x], argTypes := #[t, t] })
    (base : Nat) (e : TypeId) (i : TypeInfo) (z : Value) (size bytes : Nat) (ht : P.underlying t = some (.slice e)) (hi : P.info? e = some i) (hz : i.zero = some z)
    (hsize : i.size = size) (hby : i.bytes = bytes) (hzs : z.cells.size = size) (hsz : 0 < size)
    (v : Value) (n : Nat) (xs : List Value) (hs : a.eval s = v) (hown : w.ownsRow base e size v n xs)
    (ad : Addr) (m c : Nat) (news : List Value) (hx : a.eval x = .slice (some ad) m c) (hl : news.length = m * size) (hnews : ∀ j u, news[j]? = some u → w.cell? (ad.add j) = some u) (h1 : ∀ u ∈ news, u.oneCell' = true)
    (hm : 0 < m) (h63 : n + m ≤ maxLen) (hbytes : (n + m) * bytes ≤ 140737488355328) (hbase : base ≤ w.heap.size) (H : Nat) (hH : w.heap.size = H)
    (h : ∀ g cap w', w'.ownsRow base e size (.slice (some ⟨g, 0, none⟩) (n + m) cap) (n + m) (xs ++ news) → w.grownBy w' v.ownBlock → (v.ownBlock = some g ∨ g = H) → g < w'.heap.size → K (a.put o.dst (.slice (some ⟨g, 0, none⟩) (n + m) cap)) w') :
    if Region.wanted o (yielded ops a.tmps) = true then Oper.wp P o a w K Q else E := by
  rw [if_pos hw]
  exact wp_append_lies w s x t ho base e i z size bytes ht hi hz hsize hby hzs hsz v n xs hs hown ad m c news hx hl hnews h1 hm h63 hbytes hbase H hH h

theorem Input.news {w : World} {rb n c : Nat} {bs : List Int} (h : Input w rb 0 n c bs) : ∀ j u, (u8s bs)[j]? = some u → w.cell? ((⟨rb, 0, none⟩ : Addr).add j) = some u := by
  intro j u hj
  obtain ⟨hj', rfl⟩ := List.getElem?_eq_some_iff.1 hj
  simp only [List.length_map] at hj'
  simp only [List.getElem_map]
  rw [Addr.add_lit]
  exact h.cell j hj'
theorem u8s_one (bs : List Int) : ∀ u ∈ u8s bs, u.oneCell' = true := by
  intro u hu
  obtain ⟨_, _, rfl⟩ := List.mem_map.1 hu
  rfl
/-- A row of one's own, as a string. -/
theorem conv_row {w : World} {base g n c : Nat} {bs : List Int} (h : w.ownsRow base 5 1 (.slice (some ⟨g, 0, none⟩) n c) n (u8s bs)) (hn : 0 < n) :
    (convert 22 9 (.slice (some ⟨g, 0, none⟩) n c)).run Tryz.prog w = .ok (.string (strOfNums bs)) w := by
  obtain ⟨g', c', he, _, _, hin⟩ := Input.of_row h hn
  simp only [Value.slice.injEq, Option.some.injEq, Addr.mk.injEq, and_true, true_and] at he
  obtain ⟨rfl, rfl⟩ := he
  exact conv_input hin
theorem litRow (w : World) (x : Int) : (w.alloc (.cells #[.int .u8 x] 5)).ownsRow w.heap.size 5 1 (.slice (some ⟨w.heap.size, 0, none⟩) 1 1) 1 (u8s [x]) :=
  World.ownsRow_lit w #[.int .u8 x] 1 (Nat.le_refl _) (by decide) rfl

theorem litIn (w : World) (x : Int) : Input (w.alloc (.cells #[.int .u8 x] 5)) w.heap.size 0 1 1 [x] := by
  refine ⟨rfl, by decide, by decide, fun j hj => ?_⟩
  obtain rfl : j = 0 := by simpa using hj
  rw [cellOf (blk_new _ _)]
  rfl

end Go.Proofs.YtipoenpakjpokaaGreatDoor
