/- Texts of ASCII: the sizes that are told. -/
import Derived.Test.YtipoenpakjpokaaGreatDoorTxt2
import Derived.Laws.RangeString
set_option linter.unusedVariables false
set_option linter.unusedSimpArgs false
namespace Go.Proofs.YtipoenpakjpokaaGreatDoor
open Go.RowKit

set_option maxRecDepth 100000 in
theorem utf8Decode (w : World) (b p m c : Nat) (x : Int) (x0 : 0 ≤ x) (x1 : x ≤ 127) (hm : 0 < m) (hc0 : w.cell? ⟨b, p, none⟩ = some (.int .u8 x)) :
    Calls Tryz.prog 224 #[.slice (some ⟨b, p, none⟩) m c] w fun e w' => e = .returned (.tuple #[.int .i32 x, .int .i64 1]) ∧ w = w' := by
  have hmi : (0 : Int) < m := by omega
  go_enter Tryz.func224, Tryz.ntmps224
  go_wp2
  refine wp_loop_rounds 1 ?_
  rw [rounds_succ]
  go_wp2
  go_ret2
  exact ⟨rfl, rfl⟩

set_option maxRecDepth 100000 in
theorem decodeRune_any (w : World) (b p m c : Nat) (x : Int) (x0 : 0 ≤ x) (x1 : x ≤ 127) (hm : 0 < m) (hc0 : w.cell? ⟨b, p, none⟩ = some (.int .u8 x)) (hc1 : 3 ≤ m → ∃ y, w.cell? ⟨b, p + 1, none⟩ = some (.int .u8 y)) :
    Calls Tryz.prog 163 #[.slice (some ⟨b, p, none⟩) m c] w fun e w' => e = .returned (.tuple #[.int .i32 x, .int .i64 1]) ∧ w = w' := by
  have hne : ¬ x = 237 := by omega
  have hP := Lib.hid (utf8Decode w b p m c x x0 x1 hm hc0)
  by_cases h3 : 3 ≤ m
  · obtain ⟨y, hc1⟩ := hc1 h3
    have h3' : ¬ (m : Int) < 3 := by omega
    have hm1 : (1 : Int) < m := by omega
    go_enter Tryz.func163, Tryz.ntmps163
    go_wp2_with (go_at_call 223; go_in)
    refine hP.out.mono ?_
    rintro e w' ⟨rfl, rfl⟩
    go_wp2
    go_ret2
    exact ⟨rfl, rfl⟩
  · clear hc1
    have h3' : (m : Int) < 3 := by omega
    go_enter Tryz.func163, Tryz.ntmps163
    go_wp2_with (go_at_call 223; go_in)
    refine hP.out.mono ?_
    rintro e w' ⟨rfl, rfl⟩
    go_wp2
    go_ret2
    exact ⟨rfl, rfl⟩

/-- What is left of a slice from its k-th element on: where nothing is left its address is of no account. -/
def RestAt (b o n c k : Nat) (v : Value) : Prop := ∃ A, v = .slice A (n - k) (c - k) ∧ (k < n → A = some ⟨b, o + k, none⟩)

set_option maxRecDepth 100000 in
theorem csize_any (w : World) (b o n c : Nat) (bs : List Int) (hin : Input w b o n c bs) (has : Ascii bs) (hn : n ≤ 3000) :
    Calls Tryz.prog 101 #[.slice (some ⟨b, o, none⟩) n c] w fun e w' => e = .returned (.int .i64 n) ∧ w = w' := by
  have hlen := Lib.hid hin.len
  have hcap := Lib.hid hin.cap
  have hin' := Lib.hid hin.cell
  have has' := Lib.hid has
  clear hin has
  go_enter Tryz.func101, Tryz.ntmps101
  go_wp2_with fail
  go_loop [0, 3] (fun p m => ∃ k : Nat, k ≤ n ∧ RestAt b o n c k p ∧ m = .int .i64 k) (fun _ m => n - (intOf m).toNat)
  case atStart => exact ⟨0, Nat.zero_le _, ⟨_, by simp; rfl, fun _ => by simp⟩, rfl⟩
  case round =>
    obtain ⟨k, hk, ⟨A, rfl, hA⟩, rfl⟩ := hrel
    by_cases hlt : k < n
    · obtain rfl := hA hlt
      clear hA
      have hl := hlen.out
      obtain ⟨x, hx⟩ : ∃ x, x = bs[k]'(by omega) := ⟨_, rfl⟩
      have hx2 := has'.out.at k (by omega)
      rw [← hx] at hx2
      obtain ⟨x0, x1⟩ := hx2
      have hc0 : w.cell? ⟨b, o + k, none⟩ = some (.int .u8 x) := by rw [hx]; exact hin'.out k (by omega)
      have hP := Lib.hid (decodeRune_any w b (o + k) (n - k) (c - k) x x0 x1 (by omega) hc0 (fun h3 => ⟨_, by have := hin'.out (k + 1) (by omega); rwa [← Nat.add_assoc] at this⟩))
      have hcp := hcap.out
      clear hc0 hx hl
      obtain ⟨m, hm⟩ : ∃ m, m = n - k := ⟨_, rfl⟩
      obtain ⟨d, hd⟩ : ∃ d, d = c - k := ⟨_, rfl⟩
      have hm1 : 1 ≤ m := by omega
      have hmd : m ≤ d := by omega
      have he : Hid (m - 1 = n - (k + 1) ∧ d - 1 = c - (k + 1) ∧ (k + 1 < n → ¬ d = 1)) := ⟨by omega, by omega, by omega⟩
      rw [← hm, ← hd] at hP ⊢
      replace hm := Lib.hid hm
      replace hd := Lib.hid hd
      have hmi : (0 : Int) < m := by omega
      go_wp2_with fail
      refine hP.out.mono ?_
      rintro e w' ⟨rfl, rfl⟩
      go_wp2_with (go_at_call 164; go_in)
      all_goals go_round
      case rel => exact ⟨k + 1, by omega, ⟨_, by rw [he.out.1, he.out.2.1], fun h => by rw [if_neg (he.out.2.2 h), Nat.add_assoc]⟩, by go_num⟩
      case measure => simp [intOf]; omega
    · obtain rfl : k = n := by omega
      clear hA
      simp only [Nat.sub_self]
      go_wp2
      go_ret
      exact ⟨rfl, rfl⟩

set_option maxRecDepth 100000 in
theorem strSize_any (w : World) (s : ByteArray) (hs : s.size ≤ 3000) (ha : ∀ i (h : i < s.size), (s[i]'h).toNat < 128) :
    Calls Tryz.prog 102 #[.string s] w fun e w' => e = .returned (.int .i64 s.size) ∧ Below w.heap.size w w' := by
  have ha' := Lib.hid ha; clear ha
  go_enter Tryz.func102, Tryz.ntmps102
  go_wp2_with fail
  go_loopw [3] (fun m wr => ∃ k : Nat, k ≤ s.size ∧ m = .int .i64 k ∧ wr = w.iter s k) (fun m _ => s.size - (intOf m).toNat)
  case atStart => exact ⟨0, Nat.zero_le _, rfl, rfl⟩
  case round =>
    obtain ⟨k, hk, rfl, rfl⟩ := hrel
    by_cases hlt : k < s.size
    · have h128 := ha'.out k hlt
      have hnext : ∀ ty, (Instr.next (.pointer (some ⟨w.heap.size, 0, none⟩)) true ty).run Tryz.prog (w.iter s k) = _ := fun ty => run_next_ascii w s k ty hlt h128
      generalize (s[k]'hlt).toNat = x at *
      have hx : ((x : Nat) : Int) ≤ 127 := by omega
      have hx0 : ¬ ((x : Nat) : Int) < 0 := by omega
      clear h128
      go_wp2_with (go_at_call 164; go_in)
      all_goals go_roundw
      case rel => exact ⟨k + 1, by omega, by go_num, rfl⟩
      case measure => simp [intOf]; omega
    · obtain rfl : k = s.size := by omega
      have hnext : ∀ ty, (Instr.next (.pointer (some ⟨w.heap.size, 0, none⟩)) true ty).run Tryz.prog (w.iter s s.size) = _ := fun ty => run_next_end w s s.size ty hlt
      go_wp2
      go_ret
      exact ⟨rfl, (Below.refl _ w).alloc (Nat.le_refl _) _⟩

/-- The size that is told of a text of n bytes. -/
def szB (n : Nat) : Nat := (lenB n).length + n
set_option maxRecDepth 100000 in
theorem varSize_any (w : World) (n : Nat) (hn : n ≤ 3000) : Calls Tryz.prog 100 #[.int .i64 n] w fun e w' => e = .returned (.int .i64 (szB n)) ∧ w = w' := by
  by_cases h2 : n ≤ 245
  · have he : ((szB n : Nat) : Int) = (n : Int) + 1 := by unfold szB; rw [lenB_length, if_pos h2]; omega
    rw [he]
    clear he
    go_enter Tryz.func100, Tryz.ntmps100
    go_wp2
    go_ret
    exact ⟨rfl, rfl⟩
  · have he : ((szB n : Nat) : Int) = (n : Int) + 3 := by unfold szB; rw [lenB_length, if_neg h2]; omega
    rw [he]
    clear he
    go_enter Tryz.func100, Tryz.ntmps100
    go_wp2
    go_ret
    exact ⟨rfl, rfl⟩

/-- A text's string is ASCII. -/
theorem str_ascii {s : ByteArray} {bs : List Int} (hs : numsOf s = bs) (has : Ascii bs) : ∀ i (h : i < s.size), (s[i]'h).toNat < 128 := by
  intro i h
  have h2 : i < bs.length := by rw [← hs, numsOf_length]; exact h
  have := (has.at i h2).2
  have e : bs[i] = ((s[i]'h).toNat : Int) := by
    subst hs
    simp [numsOf]
    rfl
  omega

set_option maxRecDepth 100000 in
theorem varFieldSize_any (w : World) (base : Nat) (bs : List Int) (x : Value) (hx : TxtAny base w bs x) (hn : bs.length ≤ 3000) :
    Calls Tryz.prog 49 #[x] w fun e w' => e = .returned (.int .i64 (szB bs.length)) ∧ Below w.heap.size w w' := by
  have hP := Lib.hid (varSize_any w bs.length hn)
  cases hx with
  | bytes g c hin hg =>
    clear hin
    go_enter Tryz.func49, Tryz.ntmps49
    go_wp2_with fail
    refine hP.out.mono ?_
    rintro e w' ⟨rfl, rfl⟩
    go_wp2
    go_ret
    exact ⟨rfl, Below.refl _ _⟩
  | str s hs =>
    have hsz : (s.size : Int) = (bs.length : Int) := by rw [← hs, numsOf_length]
    clear hs
    go_enter Tryz.func49, Tryz.ntmps49
    go_wp2_with fail
    refine hP.out.mono ?_
    rintro e w' ⟨rfl, rfl⟩
    go_wp2
    go_ret
    exact ⟨rfl, Below.refl _ _⟩

set_option maxRecDepth 100000 in
theorem cesuFieldSize_any (w : World) (base : Nat) (bs : List Int) (x : Value) (hx : TxtAny base w bs x) (has : Ascii bs) (hn : bs.length ≤ 3000) :
    Calls Tryz.prog 50 #[x] w fun e w' => e = .returned (.int .i64 (szB bs.length)) ∧ Below w.heap.size w w' := by
  cases hx with
  | bytes g c hin hg =>
    have hS := Lib.hid (csize_any w g 0 bs.length c bs hin has hn)
    have hP := Lib.hid (varSize_any w bs.length hn)
    clear hin has
    go_enter Tryz.func50, Tryz.ntmps50
    go_wp2_with fail
    refine hS.out.mono ?_
    rintro e w' ⟨rfl, rfl⟩
    go_wp2_with fail
    refine hP.out.mono ?_
    rintro e w' ⟨rfl, rfl⟩
    go_wp2
    go_ret
    exact ⟨rfl, Below.refl _ _⟩
  | str s hs =>
    have hsz : s.size = bs.length := by rw [← hs, numsOf_length]
    have hS := Lib.hid (strSize_any w s (by omega) (str_ascii hs has))
    have hP := Lib.hid (fun w => varSize_any w s.size (by omega))
    have hsz' := Lib.hid hsz
    clear hs hsz has
    go_enter Tryz.func50, Tryz.ntmps50
    go_wp2_with fail
    refine hS.out.mono ?_
    rintro e w1 ⟨rfl, hb1⟩
    go_wp2_with fail
    refine (hP.out w1).mono ?_
    rintro e w' ⟨rfl, rfl⟩
    go_wp2
    go_ret
    exact ⟨by rw [hsz'.out]; rfl, hb1⟩
end Go.Proofs.YtipoenpakjpokaaGreatDoor
