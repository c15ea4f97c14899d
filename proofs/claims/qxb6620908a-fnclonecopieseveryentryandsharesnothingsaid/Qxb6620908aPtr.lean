import Derived.Test.Qxb6620908aClone
import Derived.LaidEqlPtr
namespace Go.Proofs.Qxb6620908a
open Go.RowKit Go.Maps
theorem info42s : (Try.prog.info? 42).map (fun i => i.size) = some 1 := by kernel_rfl
theorem run_ptr_ne (w : World) (kc kp : Nat) (c : Array Value) (t : TypeId) (v : Value) (hne : kc ≠ kp) (ha : w.heap[kc]? = some (.cells c t (0, 0))) (hv : w.cell? ⟨kp, 0, none⟩ = some v) :
    (binOp .eql 26 (.pointer (some ⟨kc, 0, none⟩)) (.pointer (some ⟨kp, 0, none⟩))).run Try.prog w = .ok (.bool false) w := by
  have hs : (sameAddr ⟨kc, 0, none⟩ ⟨kp, 0, none⟩).run Try.prog w = .ok false w := by
    unfold World.cell? at hv
    split at hv
    · rename_i cb tb z hb
      simp at hv
      have hpos : cb.size ≠ 0 := by intro q; simp [Array.getElem?_eq_none (xs := cb) (i := 0) (by omega)] at hv
      obtain ⟨lo, hi⟩ := z
      simp [sameAddr, hne, World.frozen?, ha, hb, noView, viewAt, World.shape?, mayBeOne, stringish, hpos]
    · cases hv
  have h : ∀ d : Nat, (Op.equalIn (d + 1) 26 (.pointer (some ⟨kc, 0, none⟩)) (.pointer (some ⟨kp, 0, none⟩))).run Try.prog w = .ok false w := fun d => by
    have hi := info42s
    cases q : Try.prog.info? 42 with
    | none => rw [q] at hi; cases hi
    | some j =>
      rw [q] at hi
      have hj : j.size = 1 := by simpa using hi
      simp [Op.equalIn, run_underlying Try.underlying26, sizeOf, typeInfo, hs, q, hj]
  simp only [binOp]
  simp [Op.equal, Op.maxDepth, h 9999]
end Go.Proofs.Qxb6620908a
