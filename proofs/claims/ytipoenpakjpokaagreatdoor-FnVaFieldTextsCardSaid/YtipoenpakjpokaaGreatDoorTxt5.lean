/- Texts of ASCII: the fields of texts. -/
import Derived.Test.YtipoenpakjpokaaGreatDoorTxt4
set_option linter.unusedVariables false
set_option linter.unusedSimpArgs false
namespace Go.Proofs.YtipoenpakjpokaaGreatDoor
open Go.RowKit

set_option maxRecDepth 100000 in
theorem cesuString_any (w : World) (base E S W : Nat) (tr : Value) (xs : List Int) (s : ByteArray) (h : EncAt w base E S W tr xs) (has : Ascii (numsOf s)) (hn : s.size ≤ 3000) (hl : xs.length ≤ 2000) :
    Calls Tryz.prog 186 #[.pointer (some ⟨E, 0, none⟩), .string s] w fun e w' =>
      e = .returned (.tuple #[.int .i64 s.size, .nilIface]) ∧ EncAt w' base E S W tr (xs ++ numsOf s) ∧ Below base w w' := by
  obtain ⟨cap, w1, hc, hin, hb, hz⟩ := strBytes w s (by omega)
  have h1 := h.keep hb
  have hbase : base ≤ w.heap.size := by have := h.lo.1; have := sizeOf_blk h.enc; omega
  have hS : w.heap.size ≠ S := by obtain ⟨C, _, hs⟩ := h.scr; have := sizeOf_blk hs; omega
  have hP := Lib.hid (cesuBytes_any w1 base E S W tr xs (numsOf s) h1 w.heap.size 0 s.size cap hin hS (by omega) has hn hl)
  have hb' := Lib.hid hb; clear hb
  clear hin hz has
  go_enter Tryz.func186, Tryz.ntmps186
  go_wp2_with fail
  refine hP.out.mono ?_
  rintro e w2 ⟨rfl, h2, hb2⟩
  go_wp2
  go_ret2
  exact ⟨rfl, h2, (hb'.out.mono hbase).trans hb2⟩

set_option maxRecDepth 100000 in
theorem cesuLiBytes_any (w : World) (base E S W : Nat) (tr : Value) (xs bs : List Int) (h : EncAt w base E S W tr xs) (b o n c : Nat) (hin : Input w b o n c bs) (hb0 : b < base) (has : Ascii bs) (hn : n ≤ 3000) (hl : xs.length ≤ 1000) :
    Calls Tryz.prog 124 #[.pointer (some ⟨E, 0, none⟩), .slice (some ⟨b, o, none⟩) n c] w fun e w' =>
      e = .returned .nilIface ∧ EncAt w' base E S W tr (xs ++ lenB n ++ bs) ∧ Below base w w' := by
  have hll := Lib.hid (lenB_le n)
  have hS := Lib.hid (csize_any w b o n c bs hin has hn)
  have has' := Lib.hid has; clear has
  go_enter Tryz.func124, Tryz.ntmps124
  go_wp2_with fail
  refine hS.out.mono ?_
  rintro e w' ⟨rfl, rfl⟩
  go_wp2_with fail
  refine (encVarInd w base E S W tr xs h n hn hl).mono ?_
  rintro e w1 ⟨rfl, h1, hb⟩
  have hin1 := hin.below hb hb0
  go_wp2_with fail
  refine (cesuBytes_any w1 base E S W tr _ bs h1 b o n c hin1 (by have := h1.lo.2.1; omega) (by have := h1.lo.1; have := sizeOf_blk h1.enc; omega) has'.out hn (by have := hll.out; simp; omega)).mono ?_
  rintro e w2 ⟨rfl, h2, hb2⟩
  go_wp2
  go_ret
  exact ⟨rfl, h2, hb.trans hb2⟩

set_option maxRecDepth 100000 in
theorem cesuLiString_any (w : World) (base E S W : Nat) (tr : Value) (xs : List Int) (s : ByteArray) (h : EncAt w base E S W tr xs) (has : Ascii (numsOf s)) (hn : s.size ≤ 3000) (hl : xs.length ≤ 1000) :
    Calls Tryz.prog 125 #[.pointer (some ⟨E, 0, none⟩), .string s] w fun e w' =>
      e = .returned .nilIface ∧ EncAt w' base E S W tr (xs ++ lenB s.size ++ numsOf s) ∧ Below base w w' := by
  have hll := Lib.hid (lenB_le s.size)
  have hS := Lib.hid (strSize_any w s hn (str_ascii rfl has))
  have hbw : base ≤ w.heap.size := by have := h.lo.1; have := sizeOf_blk h.enc; omega
  have has' := Lib.hid has; clear has
  go_enter Tryz.func125, Tryz.ntmps125
  go_wp2_with fail
  refine hS.out.mono ?_
  rintro e w0 ⟨rfl, hb0⟩
  have h0 := h.keep hb0
  have hb0' := hb0.mono hbw
  go_wp2_with fail
  refine (encVarInd w0 base E S W tr xs h0 s.size hn hl).mono ?_
  rintro e w1 ⟨rfl, h1, hb⟩
  go_wp2_with fail
  refine (cesuString_any w1 base E S W tr _ s h1 has'.out hn (by have := hll.out; simp; omega)).mono ?_
  rintro e w2 ⟨rfl, h2, hb2⟩
  go_wp2
  go_ret
  exact ⟨rfl, h2, (hb0'.trans hb).trans hb2⟩

set_option maxRecDepth 100000 in
theorem cesuField_any (w : World) (base E S W : Nat) (tr : Value) (xs bs : List Int) (x : Value) (h : EncAt w base E S W tr xs) (hx : TxtAny base w bs x) (has : Ascii bs) (hn : bs.length ≤ 3000) (hl : xs.length ≤ 1000) :
    Calls Tryz.prog 73 #[.pointer (some ⟨E, 0, none⟩), x] w fun e w' =>
      e = .returned .nilIface ∧ EncAt w' base E S W tr (xs ++ lenB bs.length ++ bs) ∧ Below base w w' := by
  cases hx with
  | bytes g c hin hg =>
    have hP := Lib.hid (cesuLiBytes_any w base E S W tr xs bs h g 0 bs.length c hin hg has hn hl)
    clear hin has
    go_enter Tryz.func73, Tryz.ntmps73
    go_wp2_with fail
    refine hP.out.mono ?_
    rintro e w2 ⟨rfl, h2, hb2⟩
    go_wp2
    go_ret
    exact ⟨rfl, h2, hb2⟩
  | str s hs =>
    have hsz : s.size = bs.length := by rw [← hs, numsOf_length]
    have hP := cesuLiString_any w base E S W tr xs s h (by rw [hs]; exact has) (by omega) hl
    rw [hsz, hs] at hP
    replace hP := Lib.hid hP
    clear hs hsz has
    go_enter Tryz.func73, Tryz.ntmps73
    go_wp2_with fail
    refine hP.out.mono ?_
    rintro e w2 ⟨rfl, h2, hb2⟩
    go_wp2
    go_ret
    exact ⟨rfl, h2, hb2⟩

/-- The type codes of texts and of bytes that are told as they are; those that are CESU-8. -/
def VarCode (c : Int) : Prop := c = 8 ∨ c = 9 ∨ c = 12 ∨ c = 13 ∨ c = 29 ∨ c = 55
def CesuCode (c : Int) : Prop := c = 10 ∨ c = 11 ∨ c = 30 ∨ c = 52
theorem iface_of {base : Nat} {w : World} {bs : List Int} {x : Value} (h : TxtAny base w bs x) : ∃ t v, x = .iface t v := by
  cases h with
  | bytes g c _ _ => exact ⟨_, _, rfl⟩
  | str s _ => exact ⟨_, _, rfl⟩

set_option maxRecDepth 100000 in
set_option maxHeartbeats 1000000 in
theorem prmText (w : World) (base E S W F : Nat) (tr : Value) (xs bs : List Int) (c : Int) (x : Value) (hc : VarCode c ∨ CesuCode c) (h : EncAt w base E S W tr xs) (hx : TxtAny base w bs x) (has : Ascii bs) (hn : bs.length ≤ 3000) (hl : xs.length ≤ 100)
    (hF : w.cell? ⟨F, 5, none⟩ = some (.int .u8 c)) (hFb : F < base) :
    Calls Tryz.prog 31 #[.pointer (some ⟨F, 0, none⟩), .pointer (some ⟨E, 0, none⟩), x] w fun e w' =>
      e = .returned .nilIface ∧ EncAt w' base E S W tr (xs ++ [c] ++ lenB bs.length ++ bs) ∧ Below base w w' := by
  have kv := Lib.hid (fun w1 (h1 : EncAt w1 base E S W tr (xs ++ [c])) (hb : Below base w w1) => varField_any w1 base E S W tr (xs ++ [c]) bs x h1 (hx.below hb (Nat.le_refl _)) hn (by simp; omega))
  have kc := Lib.hid (fun w1 (h1 : EncAt w1 base E S W tr (xs ++ [c])) (hb : Below base w w1) => cesuField_any w1 base E S W tr (xs ++ [c]) bs x h1 (hx.below hb (Nat.le_refl _)) has hn (by simp; omega))
  obtain ⟨t, v, rfl⟩ := iface_of hx
  clear hx has
  rcases hc with (rfl | rfl | rfl | rfl | rfl | rfl) | (rfl | rfl | rfl | rfl)
  all_goals
    go_enter Tryz.func31, Tryz.ntmps31
    go_wp2_with (first | (go_at_call 52; go_in) | (go_at_call 48; go_in))
    refine (byte_any w base E S W tr xs h _ (by omega)).mono ?_
    rintro e w1 ⟨rfl, h1, hb⟩
    have hF1 := (hb.cell (p := ⟨F, 5, none⟩) hFb).trans hF
    go_wp2_with fail
    first
      | (refine (kv.out w1 h1 hb).mono ?_; rintro e w2 ⟨rfl, h2, hb2⟩; go_wp2; go_ret; exact ⟨rfl, h2, hb.trans hb2⟩)
      | (refine (kc.out w1 h1 hb).mono ?_; rintro e w2 ⟨rfl, h2, hb2⟩; go_wp2; go_ret; exact ⟨rfl, h2, hb.trans hb2⟩)

set_option maxRecDepth 100000 in
theorem sizeText (w : World) (base F : Nat) (bs : List Int) (c : Int) (x : Value) (hc : VarCode c ∨ CesuCode c) (hx : TxtAny base w bs x) (has : Ascii bs) (hn : bs.length ≤ 3000) (hF : w.cell? ⟨F, 5, none⟩ = some (.int .u8 c)) :
    Calls Tryz.prog 15 #[.pointer (some ⟨F, 0, none⟩), x] w fun e w' => e = .returned (.int .i64 (szB bs.length)) ∧ Below w.heap.size w w' := by
  have kv := Lib.hid (varFieldSize_any w base bs x hx hn)
  have kc := Lib.hid (cesuFieldSize_any w base bs x hx has hn)
  obtain ⟨t, v, rfl⟩ := iface_of hx
  clear hx has
  rcases hc with (rfl | rfl | rfl | rfl | rfl | rfl) | (rfl | rfl | rfl | rfl)
  all_goals
    go_enter Tryz.func15, Tryz.ntmps15
    go_wp2_with (go_at_call 30; go_in)
    first
      | (refine kv.out.mono ?_; rintro e w2 ⟨rfl, hb2⟩; go_wp2; go_ret; exact ⟨by simp, hb2⟩)
      | (refine kc.out.mono ?_; rintro e w2 ⟨rfl, hb2⟩; go_wp2; go_ret; exact ⟨by simp, hb2⟩)
end Go.Proofs.YtipoenpakjpokaaGreatDoor
