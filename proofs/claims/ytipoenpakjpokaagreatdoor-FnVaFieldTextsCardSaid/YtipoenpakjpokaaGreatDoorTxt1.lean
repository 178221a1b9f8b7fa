/- Texts: the bytes that tell a length; bytes and strings with their length ahead. -/
import Derived.Test.YtipoenpakjpokaaGreatDoorIntsEnc
import Derived.Test.YtipoenpakjpokaaGreatDoorBools
import Derived.Test.YtipoenpakjpokaaGreatDoorGen
import Derived.Laws.IdiomStrings
set_option linter.unusedVariables false
set_option linter.unusedSimpArgs false
namespace Go.Proofs.YtipoenpakjpokaaGreatDoor
open Go.RowKit

/-- The bytes that tell a length of at most 32767. -/
def lenB (n : Nat) : List Int := if n ≤ 245 then [(n : Int)] else 246 :: leB n 2
theorem lenB_length (n : Nat) : (lenB n).length = if n ≤ 245 then 1 else 3 := by unfold lenB; split <;> simp
theorem lenB_le (n : Nat) : (lenB n).length ≤ 3 ∧ 1 ≤ (lenB n).length := by rw [lenB_length]; split <;> omega

set_option maxRecDepth 100000 in
theorem encVarInd (w : World) (base E S W : Nat) (tr : Value) (xs : List Int) (h : EncAt w base E S W tr xs) (n : Nat) (hn : n ≤ 3000) (hl : xs.length ≤ 1000) :
    Calls Tryz.prog 23 #[.pointer (some ⟨E, 0, none⟩), .int .i64 n] w fun e w' =>
      e = .returned .nilIface ∧ EncAt w' base E S W tr (xs ++ lenB n) ∧ Below base w w' := by
  by_cases h2 : n ≤ 245
  · have hle : lenB n = [(n : Int)] := by simp [lenB, h2]
    rw [hle]
    clear hle
    go_enter Tryz.func23, Tryz.ntmps23
    go_wp2_with fail
    refine (byte_any w base E S W tr xs h n (by omega)).mono ?_
    rintro e w1 ⟨rfl, h1, hb⟩
    go_wp2
    go_ret
    exact ⟨rfl, h1, hb⟩
  · have hle : lenB n = 246 :: leB n 2 := by simp [lenB, h2]
    rw [hle]
    clear hle
    go_enter Tryz.func23, Tryz.ntmps23
    go_wp2_with fail
    refine (byte_any w base E S W tr xs h 246 (by omega)).mono ?_
    rintro e w1 ⟨rfl, h1, hb⟩
    go_wp2_with fail
    refine (encInt16 w1 base E S W tr _ h1 n (by omega) (by omega) (by simp; omega)).mono ?_
    rintro e w2 ⟨rfl, h2, hb2⟩
    go_wp2
    go_ret
    exact ⟨rfl, by simpa using h2, hb.trans hb2⟩

set_option maxRecDepth 100000 in
theorem liBytes_any (w : World) (base E S W : Nat) (tr : Value) (xs bs : List Int) (h : EncAt w base E S W tr xs) (b o n c : Nat) (hin : Input w b o n c bs) (hb0 : b < base) (hn : n ≤ 3000) (hl : xs.length ≤ 1000) :
    Calls Tryz.prog 122 #[.pointer (some ⟨E, 0, none⟩), .slice (some ⟨b, o, none⟩) n c] w fun e w' =>
      e = .returned .nilIface ∧ EncAt w' base E S W tr (xs ++ lenB n ++ bs) ∧ Below base w w' := by
  have hlen := Lib.hid hin.len
  have hll := Lib.hid (lenB_le n)
  go_enter Tryz.func122, Tryz.ntmps122
  go_wp2_with fail
  refine (encVarInd w base E S W tr xs h n hn hl).mono ?_
  rintro e w1 ⟨rfl, h1, hb⟩
  have hin1 := hin.below hb hb0
  go_wp2_with fail
  refine (bytes_any w1 base E S W tr _ bs h1 b o n c hin1.len hin1.cell (by have := hll.out; have := hlen.out; simp; omega)).mono ?_
  rintro e w2 ⟨rfl, h2, hb2⟩
  go_wp2
  go_ret
  exact ⟨rfl, h2, hb.trans hb2⟩

/-- The bytes of a string, as numbers. -/
def numsOf (s : ByteArray) : List Int := s.data.toList.map fun c => (c.toNat : Int)
theorem numsOf_length (s : ByteArray) : (numsOf s).length = s.size := by simp [numsOf]

/-- A string's bytes, laid in a new row. -/
theorem strBytes (w : World) (s : ByteArray) (hn : s.size ≤ 3000) : ∃ cap w1, (convert 9 22 (.string s)).run Tryz.prog w = .ok (.slice (some ⟨w.heap.size, 0, none⟩) s.size cap) w1 ∧
    Input w1 w.heap.size 0 s.size cap (numsOf s) ∧ Below w.heap.size w w1 ∧ w1.heap.size = w.heap.size + 1 := by
  refine ⟨_, _, run_bytes_of_string w 9 22 5 s Tryz.underlying9 Tryz.underlying22 Tryz.underlying5, ⟨numsOf_length s, grownCap_ge _ _ _ _, ?_, fun j hj => ?_⟩, ?_, ?_⟩
  · have := grownCap_le_maxLen w s.size 0 5 (by unfold maxLen; omega)
    unfold maxLen at this
    omega
  · have hb : (w.drew.alloc (.cells (bytesRow s (grownCap w s.size 0 5)) 5 ((bytesRow s (grownCap w s.size 0 5)).size, (bytesRow s (grownCap w s.size 0 5)).size + 1))).heap[w.heap.size]? = _ := blk_new w.drew _
    rw [cellOf hb, Nat.zero_add, bytesRow_at s _ j (by simpa [numsOf] using hj)]
    simp [numsOf]
  · exact (Below.drew (Below.refl _ w)).alloc (Nat.le_refl _) _
  · show (w.heap.push _).size = _
    simp

set_option maxRecDepth 100000 in
theorem string_any (w : World) (base E S W : Nat) (tr : Value) (xs : List Int) (s : ByteArray) (h : EncAt w base E S W tr xs) (hn : s.size ≤ 3000) (hl : xs.length ≤ 2000) :
    Calls Tryz.prog 184 #[.pointer (some ⟨E, 0, none⟩), .string s] w fun e w' =>
      e = .returned (.tuple #[]) ∧ EncAt w' base E S W tr (xs ++ numsOf s) ∧ Below base w w' := by
  obtain ⟨cap, w1, hc, hin, hb, hz⟩ := strBytes w s hn
  have h1 := h.keep hb
  have hbase : base ≤ w.heap.size := by have := h.lo.1; have := sizeOf_blk h.enc; omega
  have hP := Lib.hid (bytes_any w1 base E S W tr xs (numsOf s) h1 w.heap.size 0 s.size cap (numsOf_length s) hin.cell (by rw [numsOf_length]; omega))
  have hz' := Lib.hid hz; clear hz
  have hb' := Lib.hid hb; clear hb
  clear hin
  go_enter Tryz.func184, Tryz.ntmps184
  go_wp2_with fail
  refine hP.out.mono ?_
  rintro e w2 ⟨rfl, h2, hb2⟩
  go_wp2
  go_end0
  exact ⟨rfl, h2, (hb'.out.mono hbase).trans hb2⟩

set_option maxRecDepth 100000 in
theorem liString_any (w : World) (base E S W : Nat) (tr : Value) (xs : List Int) (s : ByteArray) (h : EncAt w base E S W tr xs) (hn : s.size ≤ 3000) (hl : xs.length ≤ 1000) :
    Calls Tryz.prog 123 #[.pointer (some ⟨E, 0, none⟩), .string s] w fun e w' =>
      e = .returned .nilIface ∧ EncAt w' base E S W tr (xs ++ lenB s.size ++ numsOf s) ∧ Below base w w' := by
  have hll := Lib.hid (lenB_le s.size)
  go_enter Tryz.func123, Tryz.ntmps123
  go_wp2_with fail
  refine (encVarInd w base E S W tr xs h s.size hn hl).mono ?_
  rintro e w1 ⟨rfl, h1, hb⟩
  go_wp2_with fail
  refine (string_any w1 base E S W tr _ s h1 hn (by have := hll.out; simp; omega)).mono ?_
  rintro e w2 ⟨rfl, h2, hb2⟩
  go_wp2
  go_ret
  exact ⟨rfl, h2, hb.trans hb2⟩

/-- A text as the encoder gets it: bytes that lie at (g, n, c), or a string. -/
inductive TxtAny (base : Nat) (w : World) (bs : List Int) : Value → Prop
  | bytes (g c : Nat) (hin : Input w g 0 bs.length c bs) (hg : g < base) : TxtAny base w bs (.iface 22 (.slice (some ⟨g, 0, none⟩) bs.length c))
  | str (s : ByteArray) (hs : numsOf s = bs) : TxtAny base w bs (.iface 9 (.string s))
theorem TxtAny.below {base B : Nat} {w w' : World} {bs : List Int} {x : Value} (h : TxtAny base w bs x) (hb : Below B w w') (hB : base ≤ B) : TxtAny base w' bs x := by
  cases h with
  | bytes g c hin hg => exact .bytes g c (hin.below hb (by omega)) hg
  | str s hs => exact .str s hs

@[go_sem] theorem as_s_s1 (v : Value) (w : World) : (Instr.typeAssert (.iface 22 v) 20 22 false).run Tryz.prog w = .ok v w := by kernel_rfl
@[go_sem] theorem as_t_t1 (v : Value) (w : World) : (Instr.typeAssert (.iface 9 v) 20 9 false).run Tryz.prog w = .ok v w := by kernel_rfl

set_option maxRecDepth 100000 in
theorem varField_any (w : World) (base E S W : Nat) (tr : Value) (xs bs : List Int) (x : Value) (h : EncAt w base E S W tr xs) (hx : TxtAny base w bs x) (hn : bs.length ≤ 3000) (hl : xs.length ≤ 1000) :
    Calls Tryz.prog 72 #[.pointer (some ⟨E, 0, none⟩), x] w fun e w' =>
      e = .returned .nilIface ∧ EncAt w' base E S W tr (xs ++ lenB bs.length ++ bs) ∧ Below base w w' := by
  cases hx with
  | bytes g c hin hg =>
    have hP := Lib.hid (liBytes_any w base E S W tr xs bs h g 0 bs.length c hin hg hn hl)
    clear hin
    go_enter Tryz.func72, Tryz.ntmps72
    go_wp2_with fail
    refine hP.out.mono ?_
    rintro e w2 ⟨rfl, h2, hb2⟩
    go_wp2
    go_ret
    exact ⟨rfl, h2, hb2⟩
  | str s hs =>
    have hsz : s.size = bs.length := by rw [← hs, numsOf_length]
    have hP := liString_any w base E S W tr xs s h (by omega) hl
    rw [hsz, hs] at hP
    replace hP := Lib.hid hP
    clear hs hsz
    go_enter Tryz.func72, Tryz.ntmps72
    go_wp2_with fail
    refine hP.out.mono ?_
    rintro e w2 ⟨rfl, h2, hb2⟩
    go_wp2
    go_ret
    exact ⟨rfl, h2, hb2⟩
end Go.Proofs.YtipoenpakjpokaaGreatDoor
