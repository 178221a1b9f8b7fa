/- Texts: FieldBytes. -/
import Derived.Test.YtipoenpakjpokaaGreatDoorTxtC
import Derived.Test.YtipoenpakjpokaaGreatDoorTxtD
set_option linter.unusedVariables false
set_option linter.unusedSimpArgs false
namespace Go.Proofs.YtipoenpakjpokaaGreatDoor
open Go.RowKit

theorem Input.of_row0 {w : World} {base g n c : Nat} {bs : List Int} (h : w.ownsRow base 5 1 (.slice (some ⟨g, 0, none⟩) n c) n (u8s bs)) :
    base ≤ g ∧ g < w.heap.size ∧ Input w g 0 n c bs := by
  obtain ⟨hl, ⟨h, _⟩ | ⟨g', cap, cur, hv, hg, hb, hn', hc, hs, ht⟩⟩ := h
  · simp at h
  · have hlen : bs.length = n := by simpa using hl
    simp only [Value.slice.injEq, Option.some.injEq, Addr.mk.injEq, and_true, true_and] at hv
    obtain ⟨rfl, rfl⟩ := hv
    refine ⟨hg, sizeOf_blk hb, hlen, hn', hc, fun j hj => ?_⟩
    have h1 : (cur.toList.take (n * 1))[j]? = some (.int .u8 bs[j]) := by rw [ht]; simp [u8s, List.getElem?_eq_getElem hj]
    rw [cellOf hb]
    rw [List.getElem?_take] at h1
    split at h1
    · simpa using h1
    · simp at h1

theorem TxtAny.lift {base base' : Nat} {w : World} {bs : List Int} {x : Value} (h : TxtAny base w bs x) (hb : base ≤ base') : TxtAny base' w bs x := by
  cases h with
  | bytes g c hin hg => exact .bytes g c hin (by omega)
  | str s hs => exact .str s hs

/-- A text, whose row (if it has one) is no block of the first four behind w. -/
def TxtR (w : World) (ts : List Int) (x : Value) (B : Nat) (W : World) : Prop := TxtAny B W ts x ∧ ∀ t g n c, x = .iface t (.slice (some ⟨g, 0, none⟩) n c) → w.heap.size + 4 ≤ g

theorem TxtR.stays {w : World} {ts : List Int} {x : Value} {B : Nat} {W W' : World} (h : TxtR w ts x B W) (hs : Stays w 4 B W W') : TxtR w ts x B W' := by
  obtain ⟨h, h2⟩ := h
  refine ⟨?_, h2⟩
  cases h with
  | bytes g c hin hg =>
    have hg4 := h2 _ _ _ _ rfl
    exact .bytes g c ⟨hin.len, hin.cap, hin.big, fun j hj => (World.cell?_of_block (hs.blk g hg (.inr hg4))).trans (hin.cell j hj)⟩ hg
  | str s hs => exact .str s hs

theorem fbTextOf (w : World) (code : Int) (cs : Array Value) (hcs : cs.size = 22) (hc : VarCode code ∨ CesuCode code) (ts : List Int) (has : Ascii ts) (hn : ts.length ≤ 3000)
    (hany : ∀ W : World, Below w.heap.size w W → w.heap.size + 4 ≤ W.heap.size → Calls Tryz.prog 12 #[.agg cs] W fun e w' => ∃ x, e = .returned (.tuple #[x, .bool true]) ∧ TxtR w ts x w'.heap.size w' ∧ Below W.heap.size W w') :
    Calls Tryz.prog 6 #[.int .i64 code, .agg cs, .int .i64 0, .int .i64 0] w fun e w' =>
      ∃ v, e = .returned (.tuple #[v, .int .i64 (szB ts.length), .int .i64 0]) ∧ w'.ownsRow w.heap.size 5 1 v ([code] ++ lenB ts.length ++ ts).length (u8s ([code] ++ lenB ts.length ++ ts)) ∧ Below w.heap.size w w' := by
  have hcr : 0 ≤ code ∧ code ≤ 255 := by rcases hc with (rfl | rfl | rfl | rfl | rfl | rfl) | (rfl | rfl | rfl | rfl) <;> decide
  refine fbCoreT w code 0 0 (szB ts.length) cs hcs ([code] ++ lenB ts.length ++ ts) (fun x B W => TxtR w ts x B W) (by decide) (by decide) (by decide) (by decide) hcr.1 hcr.2 hany (fun _ _ _ _ h hs => h.stays hs) ?_ ?_
  · intro W x B F hF hR
    exact sizeText W B F ts code x hc hR.1 has hn hF.cells.2.2
  · intro W x base B E S Wr F tr _ hF hFb hB hR hE
    exact zzFieldBytes_any W _ _ _ _ (prmText W base E S Wr F tr [] ts code x hc hE (hR.1.lift hB) has hn (by simp) hF.cells.2.2 hFb)

theorem fbText4 (w : World) (code : Int) (hc : VarCode code ∨ CesuCode code) (b n c : Nat) (ts : List Int) (has : Ascii ts) (hn : n ≤ 3000) (hin : Input w b 0 n c ts) (hb : b < w.heap.size) :
    Calls Tryz.prog 6 #[.int .i64 code, .agg (plainVal 4 false 0 0 (.slice (some ⟨b, 0, none⟩) n c)), .int .i64 0, .int .i64 0] w fun e w' =>
      ∃ v, e = .returned (.tuple #[v, .int .i64 (szB ts.length), .int .i64 0]) ∧ w'.ownsRow w.heap.size 5 1 v ([code] ++ lenB ts.length ++ ts).length (u8s ([code] ++ lenB ts.length ++ ts)) ∧ Below w.heap.size w w' := by
  have hl := hin.len
  refine fbTextOf w code _ rfl hc ts has (by omega) ?_
  intro W hW hz
  refine (anyOf4 W b n c ts false 0 0 ⟨#[]⟩ false (.slice none 0 0) (.slice none 0 0) (hin.below hW hb) (by omega) hn).mono ?_
  rintro e w' ⟨g, c', rfl, ho, hb'⟩
  obtain ⟨h1, h2, h3⟩ := Input.of_row0 ho
  subst hl
  refine ⟨_, rfl, ⟨.bytes g c' h3 h2, ?_⟩, hb'⟩
  intro t g' n' c'' he
  simp only [Value.iface.injEq, Value.slice.injEq, Option.some.injEq, Addr.mk.injEq] at he
  obtain ⟨_, ⟨rfl, _⟩, _⟩ := he
  omega

theorem fbText5 (w : World) (code : Int) (hc : VarCode code ∨ CesuCode code) (s : ByteArray) (hs : s.size ≤ 3000) (ts : List Int) (hts : numsOf s = ts) (hl : ts.length ≤ 3000) (has : Ascii ts) :
    Calls Tryz.prog 6 #[.int .i64 code, .agg (valCells 5 false 0 0 (.slice none 0 0) s false (.slice none 0 0) (.slice none 0 0)), .int .i64 0, .int .i64 0] w fun e w' =>
      ∃ v, e = .returned (.tuple #[v, .int .i64 (szB ts.length), .int .i64 0]) ∧ w'.ownsRow w.heap.size 5 1 v ([code] ++ lenB ts.length ++ ts).length (u8s ([code] ++ lenB ts.length ++ ts)) ∧ Below w.heap.size w w' := by
  refine fbTextOf w code _ rfl hc ts has hl ?_
  intro W hW hz
  refine (anyOf5 W false 0 0 (.slice none 0 0) s false (.slice none 0 0) (.slice none 0 0) hs).mono ?_
  rintro e w' ⟨rfl, hb'⟩
  exact ⟨_, rfl, ⟨.str s hts, fun t g n c he => by simp at he⟩, hb'⟩
end Go.Proofs.YtipoenpakjpokaaGreatDoor
