/- Texts: decodeParameter at the ten type codes. -/
import Derived.Test.YtipoenpakjpokaaGreatDoorTxt8
import Derived.Test.YtipoenpakjpokaaGreatDoorTxt5
set_option linter.unusedVariables false
set_option linter.unusedSimpArgs false
namespace Go.Proofs.YtipoenpakjpokaaGreatDoor
open Go.RowKit

set_option maxRecDepth 100000 in
set_option maxHeartbeats 2000000 in
theorem decText (W : World) (base D S rb ro N c : Nat) (tr : Value) (emp : Bool) (bs ts : List Int) (code scale : Int) (hc : VarCode code ∨ CesuCode code) (n : Nat) (hn : n ≤ 3000) (hts : ts.length = n) (hx : bs.drop 1 = lenB n ++ ts) (has : Ascii ts)
    (h : DecAt W base D S rb ro N c tr true emp 1) (hin : Input W rb ro N c bs) (hrb : rb < base) (hN : N ≤ 20000) (hN1 : 1 ≤ N) :
    Calls Tryz.prog 78 #[.int .u8 code, .pointer (some ⟨D, 0, none⟩), .int .i64 scale] W fun e w' =>
      ∃ x y, e = .returned (.tuple #[x, y]) ∧ (∃ v, x = .iface 22 v ∧ ReadRow base w' ts v) ∧ y = .nilIface ∧ DecAt w' base D S rb ro N c tr true emp N ∧ Below base W w' := by
  have kv := Lib.hid (varDec_any W base D S rb ro N c tr true emp 1 bs ts n hn hts hx h hin hrb hN)
  have ka := Lib.hid (alnumDec_any W base D S rb ro N c tr emp 1 bs ts n hn hts hx h hin hrb hN)
  have kc := Lib.hid (cesuFieldDec_any W base D S rb ro N c tr true emp 1 bs ts n hn hts hx has h hin hrb hN1)
  clear h hin hx has hts
  rcases hc with (rfl | rfl | rfl | rfl | rfl | rfl) | (rfl | rfl | rfl | rfl)
  all_goals
    go_enter Tryz.func78, Tryz.ntmps78
    go_wp2_with fail
    first
      | refine kv.out.mono ?_
      | refine ka.out.mono ?_
      | refine kc.out.mono ?_
    rintro e w1 ⟨v, rfl, hR, h1, hb1⟩
    clear kv ka kc
    go_wp2
    exact bodyPost_ret (v := .tuple #[.iface 22 v, .nilIface]) (by simp [results, Tryz.results78, go_sem]) rfl ⟨_, _, rfl, ⟨v, rfl, hR⟩, rfl, h1, hb1⟩
end Go.Proofs.YtipoenpakjpokaaGreatDoor
