/- How Reset (of an embedded struct without cells) and Transform are found behind the transformers. -/
import Derived.Test.YtipoenpakjpokaaGreatDoorTxt3
set_option linter.unusedVariables false
set_option linter.unusedSimpArgs false
namespace Go.Proofs.YtipoenpakjpokaaGreatDoor
open Go.RowKit

theorem encCells : Tryz.prog.cellsOf 202 = 1 := by kernel_rfl
theorem encByte : byteOfCell Tryz.prog Tryz.prog.depth 202 0 = some 0 := by kernel_rfl
theorem encInfo : (Tryz.prog.info? 108).map (fun i => (i.methods.find? (·.name == "Reset")).map fun m => (m.path, m.func)) = some (some (#[⟨202, 0, true⟩], some (357, false))) := by kernel_rfl
theorem encFields : (Tryz.prog.underlying 202).bind (fun d => match d with | .struct fs => (fs[0]?).map (fun f => (f.type, f.offset, f.byteOffset)) | _ => none) = some (200, 0, 0) := by kernel_rfl
theorem encByteOf (b : Nat) (w : World) (h : w.heap[b]? = some (.cells #[.nilFunc] 202 (0, 0))) : (byteOf ⟨b, 0, none⟩).run Tryz.prog w = .ok 0 w := by
  have hv : (noView ⟨b, 0, none⟩).run Tryz.prog w = .ok () w := by
    have hs : w.shape? b ≠ none := by simp [World.shape?, h]
    simp [noView, viewAt, Sem.run]
    intro hn
    exact absurd hn hs
  simp [byteOf, hv, go_sem, World.shape?, h, encCells, encByte]
theorem encResetF (fuel b : Nat) (w : World) (h : w.heap[b]? = some (.cells #[.nilFunc] 202 (0, 0))) : (method (fuel + 1) 108 (.pointer (some ⟨b, 0, none⟩)) "Reset").run Tryz.prog w = .ok (357, .agg #[]) w := by
  have hb := encByteOf b w h
  have hp : (partAt ⟨b, 0, none⟩ 0 0).run Tryz.prog w = .ok ⟨b, 0, none⟩ w := by simp [partAt, hb]
  obtain ⟨i, hi, hm⟩ := Option.map_eq_some_iff.1 encInfo
  obtain ⟨m, hm, hmm⟩ := Option.map_eq_some_iff.1 hm
  simp only [Prod.mk.injEq] at hmm
  obtain ⟨hp1, hp2⟩ := hmm
  obtain ⟨d, hd, hf⟩ := Option.bind_eq_some_iff.1 encFields
  cases d with
  | struct fs =>
    obtain ⟨f, hf, hff⟩ := Option.map_eq_some_iff.1 hf
    simp only [Prod.mk.injEq] at hff
    obtain ⟨h1, h2, h3⟩ := hff
    have hl : (loadVar 200 ⟨b, 0, none⟩).run Tryz.prog w = .ok (.agg #[]) w := by go_simp
    have hz : (sizeOf 200).run Tryz.prog w = .ok 0 w := by go_simp
    have hu : (underlying 200).run Tryz.prog w = .ok (TypeDesc.struct #[]) w := run_underlying Tryz.underlying200 w
    have ht : (typeInfo 108).run Tryz.prog w = .ok i w := by simp [typeInfo, hi]
    simp [method, ht, hm, hp1, hp2, follow, run_underlying hd, hf, h1, h2, h3, Place.get, asAddr, fieldPlace, hz, hp, receiverAt, hu, hl]
  | _ => simp at hf
theorem encReset (b : Nat) (w : World) (h : w.heap[b]? = some (.cells #[.nilFunc] 202 (0, 0))) : (method 482 108 (.pointer (some ⟨b, 0, none⟩)) "Reset").run Tryz.prog w = .ok (357, .agg #[]) w := encResetF 481 b w h
theorem encTransform (a : Addr) (w : World) : (method 482 108 (.pointer (some a)) "Transform").run Tryz.prog w = .ok (358, .pointer (some a)) w := by kernel_rfl

theorem decCells : Tryz.prog.cellsOf 234 = 1 := by kernel_rfl
theorem decByte : byteOfCell Tryz.prog Tryz.prog.depth 234 0 = some 0 := by kernel_rfl
theorem decInfo : (Tryz.prog.info? 131).map (fun i => (i.methods.find? (·.name == "Reset")).map fun m => (m.path, m.func)) = some (some (#[⟨234, 0, true⟩], some (357, false))) := by kernel_rfl
theorem decFields : (Tryz.prog.underlying 234).bind (fun d => match d with | .struct fs => (fs[0]?).map (fun f => (f.type, f.offset, f.byteOffset)) | _ => none) = some (200, 0, 0) := by kernel_rfl
theorem decByteOf (b : Nat) (w : World) (h : w.heap[b]? = some (.cells #[.nilFunc] 234 (0, 0))) : (byteOf ⟨b, 0, none⟩).run Tryz.prog w = .ok 0 w := by
  have hv : (noView ⟨b, 0, none⟩).run Tryz.prog w = .ok () w := by
    have hs : w.shape? b ≠ none := by simp [World.shape?, h]
    simp [noView, viewAt, Sem.run]
    intro hn
    exact absurd hn hs
  simp [byteOf, hv, go_sem, World.shape?, h, decCells, decByte]
theorem decResetF (fuel b : Nat) (w : World) (h : w.heap[b]? = some (.cells #[.nilFunc] 234 (0, 0))) : (method (fuel + 1) 131 (.pointer (some ⟨b, 0, none⟩)) "Reset").run Tryz.prog w = .ok (357, .agg #[]) w := by
  have hb := decByteOf b w h
  have hp : (partAt ⟨b, 0, none⟩ 0 0).run Tryz.prog w = .ok ⟨b, 0, none⟩ w := by simp [partAt, hb]
  obtain ⟨i, hi, hm⟩ := Option.map_eq_some_iff.1 decInfo
  obtain ⟨m, hm, hmm⟩ := Option.map_eq_some_iff.1 hm
  simp only [Prod.mk.injEq] at hmm
  obtain ⟨hp1, hp2⟩ := hmm
  obtain ⟨d, hd, hf⟩ := Option.bind_eq_some_iff.1 decFields
  cases d with
  | struct fs =>
    obtain ⟨f, hf, hff⟩ := Option.map_eq_some_iff.1 hf
    simp only [Prod.mk.injEq] at hff
    obtain ⟨h1, h2, h3⟩ := hff
    have hl : (loadVar 200 ⟨b, 0, none⟩).run Tryz.prog w = .ok (.agg #[]) w := by go_simp
    have hz : (sizeOf 200).run Tryz.prog w = .ok 0 w := by go_simp
    have hu : (underlying 200).run Tryz.prog w = .ok (TypeDesc.struct #[]) w := run_underlying Tryz.underlying200 w
    have ht : (typeInfo 131).run Tryz.prog w = .ok i w := by simp [typeInfo, hi]
    simp [method, ht, hm, hp1, hp2, follow, run_underlying hd, hf, h1, h2, h3, Place.get, asAddr, fieldPlace, hz, hp, receiverAt, hu, hl]
  | _ => simp at hf
theorem decReset (b : Nat) (w : World) (h : w.heap[b]? = some (.cells #[.nilFunc] 234 (0, 0))) : (method 482 131 (.pointer (some ⟨b, 0, none⟩)) "Reset").run Tryz.prog w = .ok (357, .agg #[]) w := decResetF 481 b w h
theorem decTransform (a : Addr) (w : World) : (method 482 131 (.pointer (some a)) "Transform").run Tryz.prog w = .ok (370, .pointer (some a)) w := by kernel_rfl
end Go.Proofs.YtipoenpakjpokaaGreatDoor
