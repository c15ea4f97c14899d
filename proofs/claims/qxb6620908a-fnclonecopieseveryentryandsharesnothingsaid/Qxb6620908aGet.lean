/-
  ZZGet, ZZPoke.
-/
import Derived.Test.Qxb6620908aSet
namespace Go.Proofs.Qxb6620908a
open Go.RowKit Go.Maps

theorem info38 : (Try.prog.info? 38).map (fun i => (i.zero, i.size, i.bytes)) = some (some (.agg #[.int .u64 0, .int .u64 0]), 2, 16) := by kernel_rfl
theorem zero43 (w : World) : (zeroValue 43).run Try.prog w = .ok (.slice none 0 0) w := by kernel_rfl

theorem held_inj {v u : Value} {ps : List MemPlace} (h : Rv v = some (.held u, ps)) : v = u := by
  cases v <;> simp [Rv] at h
  exact h.1

/-- A LOOK-UP with 'ok'. -/
theorem kn_look {w : World} {lo hi kp sz n : Nat} {f : List UInt8 → Option (List (Int × Int))} (h : Kn w lo hi kp f sz n) (s : ByteArray) (hsm : s.size ≤ maxLen) :
    ∃ mb a c, w.cell? ⟨kp, 0, none⟩ = some (.map (some mb)) ∧ (Instr.lookup 40 (.map (some mb)) (.string s) true).run Try.prog w = .ok (.tuple #[.slice a ((f s.data.toList).getD []).length c, .bool (f s.data.toList).isSome]) w ∧ RowAt w a ((f s.data.toList).getD []) := by
  obtain ⟨mb, g, hr, hc, ⟨D, ho, hsz, hg⟩, hh, ha⟩ := h
  obtain ⟨v, ps, hrun, hv⟩ := ho.look_ok keyLaw Try.underlying40 (zero43 w) (zd := .held (.slice none 0 0)) (zp := []) rfl (WideMaps.keyOf_string_mk Try.underlying9 hsm)
  rcases hh s.data.toList with ⟨q1, q2⟩ | ⟨v', rs, q1, q2, a, c, q3, q4, q5⟩
  · rcases hg s.data.toList with ⟨r1, r2⟩ | ⟨u, r1, _, _⟩
    · rw [Maps.atKey_of_not_has r2] at hv
      obtain rfl := held_inj hv
      rw [r2] at hrun
      exact ⟨mb, none, 0, hc, by rw [q1]; exact hrun, by rw [q1]; exact fun q => absurd q (Nat.lt_irrefl _)⟩
    · rw [q2] at r1; cases r1
  · rcases hg s.data.toList with ⟨r1, r2⟩ | ⟨u, r1, r2, r3⟩
    · rw [q2] at r1; cases r1
    · rw [q2] at r1; cases r1
      rw [r3] at hv
      obtain rfl := held_inj hv
      rw [r2] at hrun
      subst q3
      exact ⟨mb, a, c, hc, by rw [q1]; exact hrun, by rw [q1]; exact q4⟩

def GetRet (w' : World) (e : Ending) (rs : List (Int × Int)) (b : Bool) : Prop := ∃ a c, e = .returned (.tuple #[.slice a rs.length c, .bool b]) ∧ RowAt w' a rs

set_option maxHeartbeats 1000000 in
theorem get_any (w : World) (lo hi kp sz n : Nat) (f : List UInt8 → Option (List (Int × Int))) (s : ByteArray) (rs : List (Int × Int)) (b : Bool) (hm : rs.length ≤ 1048576) (hsm : s.size ≤ maxLen)
    (hrs : Hid ((f s.data.toList).getD [] = rs)) (hbb : Hid ((f s.data.toList).isSome = b)) (h : Hid (Kn w lo hi kp f sz n)) :
    Calls Try.prog 12 #[.pointer (some ⟨kp, 0, none⟩), .string s] w fun e w' => GetRet w' e rs b ∧ Below w.heap.size w w' := by
  obtain ⟨i38, hi38, hz0, hz1, hz2⟩ := info_parts info38
  obtain ⟨mb, a, c, hc, hlook, hr⟩ := kn_look h.out s hsm
  rw [hrs.out, hbb.out] at hlook
  rw [hrs.out] at hr
  go_enter Try.func12, Try.ntmps12
  go_wp2_with (first | (at_make; refine wpList_make_full _ rfl _ _ 25 rfl w.heap.size 38 i38 _ 2 Try.underlying25 hi38 hz0 hz1 .i64 .i64 _ _ rs.length rfl rfl rfl rfl ?_ ?_ (Nat.le_refl _) ?_) | go_in)
  · rw [hz2]; omega
  · unfold maxLen; omega
  · intro w1 hown1 hg1
    have HF := filling_made rs hown1
    have hb1 : Below w.heap.size w w1 := (Below.refl _ _).grown hg1 (Nat.le_refl _) (fun k hk => by cases hk)
    have A0 : Aside (Filling w1 w.heap.size rs.length rs 0 ∧ Below w.heap.size w w1) := ⟨HF, hb1⟩
    clear hown1 hg1 HF hb1 hc hlook
    go_wp2
    go_loopg [9] rs.length (fun g t wr => ∃ k : Nat, g = rs.length - k ∧ k ≤ rs.length ∧ t = .int .i64 k ∧ Filling wr w.heap.size rs.length rs k ∧ Below w.heap.size w wr)
    case atStart => exact ⟨0, rfl, Nat.zero_le _, rfl, A0.out.1, A0.out.2⟩
    case round =>
      obtain ⟨k, rfl, hk, rfl, F0, hb⟩ := hrel
      have A : Aside (Below w.heap.size w wr) := hb
      have F : Aside (Filling wr w.heap.size rs.length rs k) := F0
      obtain ⟨hf1, hf2, hf3⟩ := F0
      clear A0
      by_cases hlt : k < rs.length
      · obtain ⟨b2, o2, rfl, hc2⟩ := hr.below hb (by omega)
        obtain ⟨x2, y2⟩ := hc2 k hlt
        obtain ⟨p, hp⟩ : ∃ p : Int × Int, rs[k] = p := ⟨_, rfl⟩
        rw [hp] at x2 y2
        obtain ⟨u, hu⟩ := hf2 (k * 2) (by omega)
        obtain ⟨v, hv⟩ := hf2 (k * 2 + 1) (by omega)
        have g1 := hf3 (k * 2)
        have g2 := hf3 (k * 2 + 1)
        have HP : Hid (rs[k] = p) := hp
        have hI : (k : Int) < (rs.length : Int) := by omega
        clear hf1 hf2 hf3 hc2 hp hb
        go_wp2
        go_region
        go_wp2
        go_roundg (rs.length - (k + 1))
        case rel =>
          have F1 := filling_step F.out hlt rfl p HP.out rfl
          have hb2 : Below w.heap.size w ((wr.setCell ⟨w.heap.size, k * 2, none⟩ (.int .u64 p.1)).setCell ⟨w.heap.size, k * 2 + 1, none⟩ (.int .u64 p.2)) := (A.out.setCell (Nat.le_refl _) _).setCell (Nat.le_refl _) _
          exact ⟨k + 1, rfl, by omega, by go_num, F1, hb2.drew⟩
        case measure => omega
      · obtain rfl : k = rs.length := by omega
        clear hf1 hf2 hf3 hb
        go_wp2
        go_ret2
        obtain ⟨a9, c9, e9, q9, _⟩ := filling_end (lo := 0) (hi := w.heap.size + 1) F.out (Nat.zero_le _) (Nat.lt_succ_self _) rs.length
        cases e9
        exact ⟨⟨_, _, rfl, q9⟩, A.out⟩
end Go.Proofs.Qxb6620908a
