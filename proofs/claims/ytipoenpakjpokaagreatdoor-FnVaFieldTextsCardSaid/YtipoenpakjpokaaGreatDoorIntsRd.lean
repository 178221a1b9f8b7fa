/- Integers of the type codes 1 to 4: FieldOf, ResultOf; the four type codes in one. -/
import Derived.Test.YtipoenpakjpokaaGreatDoorIntsFld
import Derived.Test.YtipoenpakjpokaaGreatDoorGen
set_option linter.unusedVariables false
set_option linter.unusedSimpArgs false
namespace Go.Proofs.YtipoenpakjpokaaGreatDoor
open Go.RowKit

set_option maxRecDepth 100000 in
theorem decBoolT (w : World) (base D S rb ro n c : Nat) (tr : Value) (dfv emp : Bool) (k : Nat) (bs : List Int) (hx : bs[k]? = some 1) (h : DecAt w base D S rb ro n c tr dfv emp k) (hin : Input w rb ro n c bs) :
    Calls Tryz.prog 203 #[.pointer (some ⟨D, 0, none⟩)] w fun e w' => e = .returned (.bool true) ∧ DecAt w' base D S rb ro n c tr dfv emp (k + 1) ∧ Below base w w' := by
  have hl : k < bs.length := (List.getElem?_eq_some_iff.1 hx).1
  have hx' : bs[k] = 1 := (List.getElem?_eq_some_iff.1 hx).2
  have hn := hin.len
  go_enter Tryz.func203, Tryz.ntmps203
  go_wp2_with fail
  refine (decByte_any w base D S rb ro n c tr dfv emp k bs h hin (by omega)).mono ?_
  rintro e w1 ⟨rfl, hd1, hk, hb⟩
  rw [hx']
  go_wp2_with fail
  go_ret
  exact ⟨by simp, hd1, hb⟩
set_option maxRecDepth 100000 in
theorem decBoolF (w : World) (base D S rb ro n c : Nat) (tr : Value) (dfv emp : Bool) (k : Nat) (bs : List Int) (hx : bs[k]? = some 0) (h : DecAt w base D S rb ro n c tr dfv emp k) (hin : Input w rb ro n c bs) :
    Calls Tryz.prog 203 #[.pointer (some ⟨D, 0, none⟩)] w fun e w' => e = .returned (.bool false) ∧ DecAt w' base D S rb ro n c tr dfv emp (k + 1) ∧ Below base w w' := by
  have hl : k < bs.length := (List.getElem?_eq_some_iff.1 hx).1
  have hx' : bs[k] = 0 := (List.getElem?_eq_some_iff.1 hx).2
  have hn := hin.len
  go_enter Tryz.func203, Tryz.ntmps203
  go_wp2_with fail
  refine (decByte_any w base D S rb ro n c tr dfv emp k bs h hin (by omega)).mono ?_
  rintro e w1 ⟨rfl, hd1, hk, hb⟩
  rw [hx']
  go_wp2_with fail
  go_ret
  exact ⟨by simp, hd1, hb⟩

/-- The Val of an integer. -/
abbrev intVal (i : Int) : Array Value := plainVal 2 false i 0 (.slice none 0 0)

/- ---- Tinyint ---- -/
theorem foTinyint (w : World) (i : Int) (h0 : 0 ≤ i) (h1 : i < 256) (rb ro c : Nat) (hin : Input w rb ro 2 c (1 :: leB i 1)) (hrb : rb < w.heap.size) :
    Calls Tryz.prog 7 #[.int .i64 1, .slice (some ⟨rb, ro, none⟩) 2 c, .int .i64 0, .bool false, .bool false] w fun e w' =>
      e = .returned (.tuple #[.agg (intVal i), .int .i64 2, .int .i64 0]) ∧ Below w.heap.size w w' := by
  refine (foCore w 1 0 2 rb ro 2 c false false (1 :: leB i 1) hin hrb (by decide) (by decide) (by decide) (by decide) (by decide) (fun x _ _ => x = .iface 2 (.int .i64 i)) (fun v _ _ => v = intVal i) ?_ ?_ (fun _ _ _ _ h _ => h)).mono ?_
  · intro W base D S F tr _ hF hFD hFS hrb' hD hin'
    refine (zzFieldOf_any W _ _ _ (decPrm W base D S rb ro 2 c tr false false _ 1 rfl (by decide) (by decide) F 1 0 0 hD hin' hF hFD hFS hrb' (fun x y w' => x = .iface 2 (.int .i64 i) ∧ y = .nilIface ∧ DecAt w' base D S rb ro 2 c tr false false 2 ∧ Below base W w') ?_)).mono ?_
    · intro W1 hD1 hin1 hb1
      exact (decTinyint W1 base D S rb ro 2 c tr false false _ 1 i h0 h1 (by simp [List.take_of_length_le]) (by decide) 0 hD1 hin1).mono fun e w' ⟨x, y, h1, h2, h3, h4, h5⟩ => ⟨x, y, h1, h2, h3, h4, hb1.trans h5⟩
    · rintro e w' ⟨x, y, h1, h2, h3, h4, h5⟩
      exact ⟨x, y, h1, h3, h2, h4, h5⟩
  · rintro W B x rfl hB
    exact (valOf2 W i).mono fun e w' ⟨h1, h2⟩ => ⟨_, h1, rfl, plain1 2 false i 0 none 0 0, rfl, h2⟩
  · rintro e w' ⟨v, B, rfl, _, rfl, _, hb⟩
    exact ⟨rfl, hb⟩

theorem foSmallint (w : World) (i : Int) (h0 : -32768 ≤ i) (h1 : i < 32768) (rb ro c : Nat) (hin : Input w rb ro 3 c (2 :: leB i 2)) (hrb : rb < w.heap.size) :
    Calls Tryz.prog 7 #[.int .i64 2, .slice (some ⟨rb, ro, none⟩) 3 c, .int .i64 0, .bool false, .bool false] w fun e w' =>
      e = .returned (.tuple #[.agg (intVal i), .int .i64 3, .int .i64 0]) ∧ Below w.heap.size w w' := by
  refine (foCore w 2 0 3 rb ro 3 c false false (2 :: leB i 2) hin hrb (by decide) (by decide) (by decide) (by decide) (by decide) (fun x _ _ => x = .iface 2 (.int .i64 i)) (fun v _ _ => v = intVal i) ?_ ?_ (fun _ _ _ _ h _ => h)).mono ?_
  · intro W base D S F tr _ hF hFD hFS hrb' hD hin'
    refine (zzFieldOf_any W _ _ _ (decPrm W base D S rb ro 3 c tr false false _ 2 rfl (by decide) (by decide) F 2 0 0 hD hin' hF hFD hFS hrb' (fun x y w' => x = .iface 2 (.int .i64 i) ∧ y = .nilIface ∧ DecAt w' base D S rb ro 3 c tr false false 3 ∧ Below base W w') ?_)).mono ?_
    · intro W1 hD1 hin1 hb1
      exact (decSmallint W1 base D S rb ro 3 c tr false false _ 1 i h0 h1 (by simp [List.take_of_length_le]) (by decide) 0 hD1 hin1).mono fun e w' ⟨x, y, h1, h2, h3, h4, h5⟩ => ⟨x, y, h1, h2, h3, h4, hb1.trans h5⟩
    · rintro e w' ⟨x, y, h1, h2, h3, h4, h5⟩
      exact ⟨x, y, h1, h3, h2, h4, h5⟩
  · rintro W B x rfl hB
    exact (valOf2 W i).mono fun e w' ⟨h1, h2⟩ => ⟨_, h1, rfl, plain1 2 false i 0 none 0 0, rfl, h2⟩
  · rintro e w' ⟨v, B, rfl, _, rfl, _, hb⟩
    exact ⟨rfl, hb⟩

theorem foInteger (w : World) (i : Int) (h0 : -2147483648 ≤ i) (h1 : i < 2147483648) (rb ro c : Nat) (hin : Input w rb ro 5 c (3 :: leB i 4)) (hrb : rb < w.heap.size) :
    Calls Tryz.prog 7 #[.int .i64 3, .slice (some ⟨rb, ro, none⟩) 5 c, .int .i64 0, .bool false, .bool false] w fun e w' =>
      e = .returned (.tuple #[.agg (intVal i), .int .i64 5, .int .i64 0]) ∧ Below w.heap.size w w' := by
  refine (foCore w 3 0 5 rb ro 5 c false false (3 :: leB i 4) hin hrb (by decide) (by decide) (by decide) (by decide) (by decide) (fun x _ _ => x = .iface 2 (.int .i64 i)) (fun v _ _ => v = intVal i) ?_ ?_ (fun _ _ _ _ h _ => h)).mono ?_
  · intro W base D S F tr _ hF hFD hFS hrb' hD hin'
    refine (zzFieldOf_any W _ _ _ (decPrm W base D S rb ro 5 c tr false false _ 3 rfl (by decide) (by decide) F 3 0 0 hD hin' hF hFD hFS hrb' (fun x y w' => x = .iface 2 (.int .i64 i) ∧ y = .nilIface ∧ DecAt w' base D S rb ro 5 c tr false false 5 ∧ Below base W w') ?_)).mono ?_
    · intro W1 hD1 hin1 hb1
      exact (decInteger W1 base D S rb ro 5 c tr false false _ 1 i h0 h1 (by simp [List.take_of_length_le]) (by decide) 0 hD1 hin1).mono fun e w' ⟨x, y, h1, h2, h3, h4, h5⟩ => ⟨x, y, h1, h2, h3, h4, hb1.trans h5⟩
    · rintro e w' ⟨x, y, h1, h2, h3, h4, h5⟩
      exact ⟨x, y, h1, h3, h2, h4, h5⟩
  · rintro W B x rfl hB
    exact (valOf2 W i).mono fun e w' ⟨h1, h2⟩ => ⟨_, h1, rfl, plain1 2 false i 0 none 0 0, rfl, h2⟩
  · rintro e w' ⟨v, B, rfl, _, rfl, _, hb⟩
    exact ⟨rfl, hb⟩

theorem foBigint (w : World) (i : Int) (h0 : -9223372036854775808 ≤ i) (h1 : i < 9223372036854775808) (rb ro c : Nat) (hin : Input w rb ro 9 c (4 :: leB i 8)) (hrb : rb < w.heap.size) :
    Calls Tryz.prog 7 #[.int .i64 4, .slice (some ⟨rb, ro, none⟩) 9 c, .int .i64 0, .bool false, .bool false] w fun e w' =>
      e = .returned (.tuple #[.agg (intVal i), .int .i64 9, .int .i64 0]) ∧ Below w.heap.size w w' := by
  refine (foCore w 4 0 9 rb ro 9 c false false (4 :: leB i 8) hin hrb (by decide) (by decide) (by decide) (by decide) (by decide) (fun x _ _ => x = .iface 2 (.int .i64 i)) (fun v _ _ => v = intVal i) ?_ ?_ (fun _ _ _ _ h _ => h)).mono ?_
  · intro W base D S F tr _ hF hFD hFS hrb' hD hin'
    refine (zzFieldOf_any W _ _ _ (decPrm W base D S rb ro 9 c tr false false _ 4 rfl (by decide) (by decide) F 4 0 0 hD hin' hF hFD hFS hrb' (fun x y w' => x = .iface 2 (.int .i64 i) ∧ y = .nilIface ∧ DecAt w' base D S rb ro 9 c tr false false 9 ∧ Below base W w') ?_)).mono ?_
    · intro W1 hD1 hin1 hb1
      exact (decBigint W1 base D S rb ro 9 c tr false false _ 1 i h0 h1 (by simp [List.take_of_length_le]) (by decide) 0 hD1 hin1).mono fun e w' ⟨x, y, h1, h2, h3, h4, h5⟩ => ⟨x, y, h1, h2, h3, h4, hb1.trans h5⟩
    · rintro e w' ⟨x, y, h1, h2, h3, h4, h5⟩
      exact ⟨x, y, h1, h3, h2, h4, h5⟩
  · rintro W B x rfl hB
    exact (valOf2 W i).mono fun e w' ⟨h1, h2⟩ => ⟨_, h1, rfl, plain1 2 false i 0 none 0 0, rfl, h2⟩
  · rintro e w' ⟨v, B, rfl, _, rfl, _, hb⟩
    exact ⟨rfl, hb⟩

/-- An integer i of the type code c, of k bytes. -/
def IntCode (c : Int) (k : Nat) (i : Int) : Prop := (c = 1 ∧ k = 1 ∧ 0 ≤ i ∧ i < 256) ∨ (c = 2 ∧ k = 2 ∧ -32768 ≤ i ∧ i < 32768) ∨ (c = 3 ∧ k = 4 ∧ -2147483648 ≤ i ∧ i < 2147483648) ∨ (c = 4 ∧ k = 8 ∧ -9223372036854775808 ≤ i ∧ i < 9223372036854775808)

theorem fbInt (w : World) (c : Int) (k : Nat) (i : Int) (h : IntCode c k i) :
    Calls Tryz.prog 6 #[.int .i64 c, .agg (intVal i), .int .i64 0, .int .i64 0] w fun e w' =>
      ∃ v, e = .returned (.tuple #[v, .int .i64 k, .int .i64 0]) ∧ w'.ownsRow w.heap.size 5 1 v (k + 1) (u8s (c :: leB i k)) ∧ Below w.heap.size w w' := by
  rcases h with ⟨rfl, rfl, h0, h1⟩ | ⟨rfl, rfl, h0, h1⟩ | ⟨rfl, rfl, h0, h1⟩ | ⟨rfl, rfl, h0, h1⟩
  · exact fbTinyint w i h0 h1
  · exact fbSmallint w i h0 h1
  · exact fbInteger w i h0 h1
  · exact fbBigint w i h0 h1
theorem foInt (w : World) (c : Int) (k : Nat) (i : Int) (h : IntCode c k i) (rb ro cc : Nat) (hin : Input w rb ro (k + 1) cc (c :: leB i k)) (hrb : rb < w.heap.size) :
    Calls Tryz.prog 7 #[.int .i64 c, .slice (some ⟨rb, ro, none⟩) (k + 1) cc, .int .i64 0, .bool false, .bool false] w fun e w' =>
      e = .returned (.tuple #[.agg (intVal i), .int .i64 (k + 1 : Nat), .int .i64 0]) ∧ Below w.heap.size w w' := by
  rcases h with ⟨rfl, rfl, h0, h1⟩ | ⟨rfl, rfl, h0, h1⟩ | ⟨rfl, rfl, h0, h1⟩ | ⟨rfl, rfl, h0, h1⟩
  · exact foTinyint w i h0 h1 rb ro cc hin hrb
  · exact foSmallint w i h0 h1 rb ro cc hin hrb
  · exact foInteger w i h0 h1 rb ro cc hin hrb
  · exact foBigint w i h0 h1 rb ro cc hin hrb
end Go.Proofs.YtipoenpakjpokaaGreatDoor
