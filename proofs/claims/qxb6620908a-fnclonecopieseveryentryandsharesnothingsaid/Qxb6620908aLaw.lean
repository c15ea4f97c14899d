/-
  THE LAW's OWN WALK.
-/
import Derived.Test.Qxb6620908aPure
import Derived.Test.Qxb6620908aPtr
import Derived.Lib.AppendStr
import Derived.Laws.IdiomStrings
namespace Go.Proofs.Qxb6620908a
open Go.RowKit Go.Maps

/-- The arguments, as the law finds them in whatever later world. -/
def Args (w : World) (a : Option Addr) (ss : List ByteArray) (a2 : Option Addr) (rr : List (List (Int × Int))) : Prop := NamesAt w a ss ∧ RunsAt w a2 rr
theorem NamesAt.below {w w' : World} {a : Option Addr} {ss : List ByteArray} (h : NamesAt w a ss) (hb : Below w.heap.size w w') : NamesAt w' a ss := by
  intro h0
  obtain ⟨b, off, rfl, hc⟩ := h h0
  refine ⟨b, off, rfl, fun i hi => ?_⟩
  have hlt : b < w.heap.size := World.block_lt_of_cell? w ⟨b, off + i, none⟩ (hc i hi)
  exact (hb.cell (p := ⟨b, off + i, none⟩) hlt).trans (hc i hi)
theorem RunsAt.below {w w' : World} {a : Option Addr} {rr : List (List (Int × Int))} (h : RunsAt w a rr) (hb : Below w.heap.size w w') : RunsAt w' a rr := by
  intro h0
  obtain ⟨b, off, rfl, hc⟩ := h h0
  refine ⟨b, off, rfl, fun i hi => ?_⟩
  obtain ⟨a', c', h1, h2⟩ := hc i hi
  have hlt : b < w.heap.size := World.block_lt_of_cell? w ⟨b, off + i, none⟩ h1
  exact ⟨a', c', (hb.cell (p := ⟨b, off + i, none⟩) hlt).trans h1, h2.below hb⟩
theorem Args.below {w w' : World} {a : Option Addr} {ss : List ByteArray} {a2 : Option Addr} {rr : List (List (Int × Int))} (h : Args w a ss a2 rr) (hb : Below w.heap.size w w') : Args w' a ss a2 rr := ⟨h.1.below hb, h.2.below hb⟩

/-- What the law's first tests have shown. -/
structure Small (ss : List ByteArray) (rr : List (List (Int × Int))) : Prop where
  names : ss.length ≤ 4096
  runs : rr.length ≤ 4096
  name : sumS ss ss.length ≤ 1048576
  run : ∀ i (h : i < rr.length), rr[i].length ≤ 65536

theorem runAt_small {ss : List ByteArray} {rr : List (List (Int × Int))} (h : Small ss rr) (i : Nat) : (runAt rr i).length ≤ 65536 := by
  unfold runAt
  by_cases hi : i < rr.length
  · rw [List.getD_eq_getElem?_getD, List.getElem?_eq_getElem hi]; exact h.run i hi
  · rw [List.getD_eq_getElem?_getD, List.getElem?_eq_none (by omega)]; simp

/-- The settings of the first k names have been made. -/
def Sets (w : World) (ss : List ByteArray) (rr : List (List (Int × Int))) (kp k : Nat) (wz : World) : Prop :=
  Kn wz w.heap.size wz.heap.size kp (setN ss rr k) (szN ss rr k) k ∧ Below w.heap.size w wz

/-- Behind the cloning: the old one and the clone, and where the clone's blocks begin. -/
structure Two (W W3 w : World) (ss : List ByteArray) (rr : List (List (Int × Int))) (kp kc : Nat) : Prop where
  old : Kn w W.heap.size W3.heap.size kp (setN ss rr ss.length) (dN ss ss.length) ss.length
  new : Kn w W3.heap.size w.heap.size kc (setN ss rr ss.length) (dN ss ss.length) (dN ss ss.length)
  bel : Below W.heap.size W w

/-- The old one stands as it was set; the clone reads as fC, its blocks in [W3's end, B). -/
structure St (W W3 : World) (B : Nat) (ss : List ByteArray) (rr : List (List (Int × Int))) (kp kc : Nat) (fC : List UInt8 → Option (List (Int × Int))) (szC nC : Nat) (w : World) : Prop where
  old : Kn w W.heap.size W3.heap.size kp (setN ss rr ss.length) (dN ss ss.length) ss.length
  new : Kn w W3.heap.size B kc fC szC nC
  bel : Below W.heap.size W w
  fits : B ≤ w.heap.size
theorem St.ends {W W3 w : World} {B kp kc szC nC : Nat} {ss : List ByteArray} {rr : List (List (Int × Int))} {fC : List UInt8 → Option (List (Int × Int))} (h : St W W3 B ss rr kp kc fC szC nC w) : W3.heap.size < B := by
  obtain ⟨_, _, q, _⟩ := h.new
  omega
theorem St.starts {W W3 w : World} {B kp kc szC nC : Nat} {ss : List ByteArray} {rr : List (List (Int × Int))} {fC : List UInt8 → Option (List (Int × Int))} (h : St W W3 B ss rr kp kc fC szC nC w) : W.heap.size < W3.heap.size := by
  obtain ⟨_, _, q, _⟩ := h.old
  omega
theorem St.step {W W3 w w' : World} {B kp kc szC nC : Nat} {ss : List ByteArray} {rr : List (List (Int × Int))} {fC : List UInt8 → Option (List (Int × Int))} (h : St W W3 B ss rr kp kc fC szC nC w) (hb : Below w.heap.size w w') : St W W3 B ss rr kp kc fC szC nC w' :=
  ⟨h.old.below hb (by have := h.ends; have := h.fits; omega), h.new.below hb h.fits, h.bel.trans (hb.mono (by have := h.ends; have := h.starts; have := h.fits; omega)), Nat.le_trans h.fits hb.size⟩
theorem St.stepB {W W3 w w' : World} {B kp kc szC nC : Nat} {ss : List ByteArray} {rr : List (List (Int × Int))} {fC : List UInt8 → Option (List (Int × Int))} (h : St W W3 B ss rr kp kc fC szC nC w) {B' : Nat} (hb : Below B' w w') (hB : B ≤ B') : St W W3 B ss rr kp kc fC szC nC w' :=
  ⟨h.old.below hb (by have := h.ends; omega), h.new.below hb hB, h.bel.trans (hb.mono (by have := h.ends; have := h.starts; omega)), Nat.le_trans h.fits hb.size⟩
theorem info5 : (Try.prog.info? 5).map (fun i => (i.zero, i.size, i.bytes)) = some (some (.int .u8 0), 1, 1) := by kernel_rfl
/-- The names joined. -/
def frN (ss : List ByteArray) : Nat → List UInt8
  | 0 => []
  | k + 1 => frN ss k ++ nm ss k
def cellsOf (l : List UInt8) : List Value := l.map fun b => Value.int .u8 b.toNat
theorem fr_len (ss : List ByteArray) : ∀ k, k ≤ ss.length → (frN ss k).length = sumS ss k := by
  intro k
  induction k with
  | zero => intro _; rfl
  | succ k ih =>
    intro hk
    rw [sumS_at ss k (by omega)]
    simp only [frN, List.length_append, ih (by omega), nm_at ss k (by omega), Array.length_toList]
    rfl
/-- The fresh name under way. -/
def Fresh (W7 : World) (v : Value) (l : List UInt8) (w : World) : Prop := w.ownsRow W7.heap.size 5 1 v l.length (cellsOf l) ∧ v ≠ .slice none 0 0
theorem fresh_read {W7 w : World} {v : Value} {l : List UInt8} (h : Fresh W7 v l w) : ∃ b cap, W7.heap.size ≤ b ∧ v = .slice (some ⟨b, 0, none⟩) l.length cap ∧ ∀ j (hj : j < l.length), w.cell? ((⟨b, 0, none⟩ : Addr).add j) = some (.int .u8 l[j].toNat) := by
  obtain ⟨h1, h2⟩ := h
  rcases h1.2 with ⟨q, _⟩ | ⟨g, cap, cur, q, hb, _⟩
  · exact absurd q h2
  · refine ⟨g, cap, hb, q, fun j hj => h1.cells (g := g) (by rw [q]; rfl) j _ ?_⟩
    simp [cellsOf, List.getElem?_eq_getElem hj]
theorem fresh_grow {W7 w w' : World} {v : Value} {l : List UInt8} {B' : Nat} (hB' : B' ≤ W7.heap.size) (hsz : W7.heap.size ≤ w.heap.size) (h : Fresh W7 v l w) (hg : w.grownBy w' v.ownBlock) : Below B' w w' := by
  obtain ⟨b, cap, hb, rfl, _⟩ := fresh_read h
  exact (Below.refl _ _).grown hg (by omega) (fun k hk => by cases hk; exact Nat.le_trans hB' hb)
theorem fresh_next {W7 w' : World} {v v' : Value} {l : List UInt8} {y : List UInt8} {m : Nat} (h : w'.ownsRow W7.heap.size 5 1 v' (l.length + m) (cellsOf l ++ cellsOf y)) (hm : m = y.length) (hiff : v' = .slice none 0 0 → v = .slice none 0 0) (hv : v ≠ .slice none 0 0) : Fresh W7 v' (l ++ y) w' := by
  refine ⟨?_, fun q => hv (hiff q)⟩
  subst hm
  have e : cellsOf (l ++ y) = cellsOf l ++ cellsOf y := by simp [cellsOf]
  rw [e, List.length_append]
  exact h
/-- Two worlds' same block reads the same string. -/
theorem conv_in (w : World) (b cap : Nat) (L : List UInt8) (F : ByteArray) (hF : F = ⟨L.toArray⟩) (hc : ∀ j (hj : j < L.length), w.cell? ((⟨b, 0, none⟩ : Addr).add j) = some (.int .u8 L[j].toNat)) :
    (convert 39 9 (.slice (some ⟨b, 0, none⟩) L.length cap)).run Try.prog w = .ok (.string F) w := by
  rw [hF]
  exact run_convert_bytes_back w 39 9 5 ⟨b, 0, none⟩ cap L Try.underlying39 Try.underlying5 Try.underlying9 hc
theorem St.poke {W W3 w w' : World} {B kp kc szC nC szC' nC' : Nat} {ss : List ByteArray} {rr : List (List (Int × Int))} {fC fC' : List UInt8 → Option (List (Int × Int))} (h : St W W3 B ss rr kp kc fC szC nC w) (hb : Below W3.heap.size w w') {B' : Nat} (hK : Kn w' W3.heap.size B' kc fC' szC' nC') (hf : B' ≤ w'.heap.size) : St W W3 B' ss rr kp kc fC' szC' nC' w' :=
  ⟨h.old.below hb (Nat.le_refl _), hK, h.bel.trans (hb.mono (by have := h.starts; omega)), hf⟩
theorem Below.ofDrewN {w w' : World} {n : Nat} (h : w' = w.drewN n) : Below w.heap.size w w' := by rw [h]; exact below_drewN (Below.refl _ _) n
theorem last_le (ss : List ByteArray) (i : Nat) (hi : i < ss.length) : ∀ k, k ≤ ss.length → lastN ss i k ≤ ss.length := by
  intro k
  induction k with
  | zero => intro _; simp [lastN]; omega
  | succ k ih => intro hk; unfold lastN; split <;> first | omega | exact ih (by omega)

set_option maxRecDepth 100000 in
set_option maxHeartbeats 40000000 in
theorem law_any (a : Option Addr) (cap : Nat) (ss : List ByteArray) (a2 : Option Addr) (cap2 : Nat) (rr : List (List (Int × Int))) (w : World) (hm : ss.length ≤ 9223372036854775807) (hm2 : rr.length ≤ 9223372036854775807)
    (hsz : ∀ i (h : i < ss.length), ss[i].size ≤ 140737488355328) (hsz2 : ∀ i (h : i < rr.length), rr[i].length ≤ 140737488355328) (HA : Hid (Args w a ss a2 rr)) :
    Calls Try.prog 3 #[.slice a ss.length cap, .slice a2 rr.length cap2] w fun e w' => e = .returned (.bool true) ∧ Below w.heap.size w w' := by
  have HZ : Hid (∀ i (h : i < ss.length), ss[i].size ≤ 140737488355328) := hsz
  have HZ2 : Hid (∀ i (h : i < rr.length), rr[i].length ≤ 140737488355328) := hsz2
  clear hsz hsz2
  go_enter Try.func3, Try.ntmps3
  go_wp2_with fail
  refine (bytes_any a cap ss a2 cap2 rr w hm hm2 (fun i h => by have := HZ.out i h; omega) (fun i h => by have := HZ2.out i h; omega) HA.out.1 HA.out.2).mono ?_
  rintro e w' ⟨⟨b, rfl⟩, rfl⟩
  cases b with
  | false =>
    go_wp2
    go_ret
    exact ⟨rfl, Below.refl _ _⟩
  | true =>
    by_cases h1 : ss.length ≤ 4096
    · have h1' : ¬ (4096 : Int) < (ss.length : Int) := by omega
      by_cases h2 : rr.length ≤ 4096
      · have h2' : ¬ (4096 : Int) < (rr.length : Int) := by omega
        have d1 : ¬ 4096 < ss.length := by omega
        have d2 : ¬ 4096 < rr.length := by omega
        go_wp2
        go_loopg [5, 6] ss.length (fun g z t wz => ∃ (k : Nat) (x : Int), g = ss.length - k ∧ k ≤ ss.length ∧ t = .int .i64 k ∧ z = .int .i64 x ∧ (sumS ss k : Int) ≤ x ∧ x ≤ 1048576 ∧ wz = w')
        case atStart => exact ⟨0, 0, rfl, Nat.zero_le _, rfl, rfl, Int.le_refl _, by omega, rfl⟩
        case round =>
          obtain ⟨k, x, rfl, hk, rfl, rfl, hx0, hx1, rfl⟩ := hrel
          by_cases hlt : k < ss.length
          · obtain ⟨b, off, rfl, hc⟩ := HA.out.1 (by omega)
            have hck := hc k hlt
            have hsk := HZ.out k hlt
            have hss := sumS_at ss k hlt
            clear hc
            obtain ⟨y, hy⟩ : ∃ y, ss[k] = y := ⟨_, rfl⟩
            rw [hy] at hck hsk hss
            have HSS : Hid (sumS ss (k + 1) = sumS ss k + y.size) := hss
            clear hy hss
            have hI : (k : Int) < (ss.length : Int) := by omega
            have hx00 : 0 ≤ x := by omega
            by_cases hy2 : x + (16 + (y.size : Int)) ≤ 1048576
            · have hy2' : ¬ 1048576 < x + (16 + (y.size : Int)) := by omega
              go_wp2
              go_roundg (ss.length - (k + 1))
              case rel => exact ⟨k + 1, x + (16 + (y.size : Int)), rfl, by omega, by go_num, rfl, by rw [HSS.out]; omega, by omega, rfl⟩
              case measure => omega
            · have hy2' : 1048576 < x + (16 + (y.size : Int)) := by omega
              go_wp2
              go_ret
              exact ⟨rfl, Below.refl _ _⟩
          · obtain rfl : k = ss.length := by omega
            have HNM : Hid (sumS ss ss.length ≤ 1048576) := by show _ ≤ _; omega
            have hx00 : 0 ≤ x := by omega
            clear hx0
            go_wp2
            go_loopg [5, 7] rr.length (fun g z t wz => ∃ (k : Nat) (x : Int), g = rr.length - k ∧ k ≤ rr.length ∧ t = .int .i64 k ∧ z = .int .i64 x ∧ 0 ≤ x ∧ x ≤ 1048576 ∧ (∀ i (h : i < rr.length), i < k → rr[i].length ≤ 65536) ∧ wz = wr)
            case atStart => exact ⟨0, x, rfl, Nat.zero_le _, rfl, rfl, hx00, hx1, fun i _ q => absurd q (Nat.not_lt_zero _), rfl⟩
            case round =>
              obtain ⟨k, x, rfl, hk, rfl, rfl, hx0, hx1, hall, rfl⟩ := hrel
              have HALL : Hid (∀ i (h : i < rr.length), i < k → rr[i].length ≤ 65536) := hall
              clear hall
              by_cases hlt : k < rr.length
              · obtain ⟨b, off, rfl, hc⟩ := HA.out.2 (by omega)
                obtain ⟨a', c', hck, _⟩ := hc k hlt
                have hsk := HZ2.out k hlt
                clear hc
                obtain ⟨y, hy⟩ : ∃ y, rr[k] = y := ⟨_, rfl⟩
                rw [hy] at hck hsk
                have HY : Hid (rr[k] = y) := hy
                clear hy
                have hI : (k : Int) < (rr.length : Int) := by omega
                by_cases hy2 : x + (24 + 16 * (y.length : Int)) ≤ 1048576
                · have hy2' : ¬ 1048576 < x + (24 + 16 * (y.length : Int)) := by omega
                  go_wp2
                  go_roundg (rr.length - (k + 1))
                  case rel =>
                    refine ⟨k + 1, x + (24 + 16 * (y.length : Int)), rfl, by omega, by go_num, rfl, by omega, by omega, fun i hi hik => ?_, rfl⟩
                    by_cases e : i = k
                    · subst e; rw [HY.out]; omega
                    · exact HALL.out i hi (by omega)
                  case measure => omega
                · have hy2' : 1048576 < x + (24 + 16 * (y.length : Int)) := by omega
                  go_wp2
                  go_ret
                  exact ⟨rfl, Below.refl _ _⟩
              · obtain rfl : k = rr.length := by omega
                have HS : Hid (Small ss rr) := ⟨h1, h2, HNM.out, fun i h => HALL.out i h h⟩
                clear HALL HNM HZ HZ2
                rename World => W
                go_wp2_with fail
                refine (new_any _).mono ?_
                rintro e w1 ⟨⟨kp, rfl, hK⟩, hb1⟩
                have S0 : Aside (Sets W ss rr kp 0 w1) := ⟨hK, hb1⟩
                clear hK hb1
                go_wp2_with fail
                go_loopg [9] ss.length (fun g t wz => ∃ k : Nat, g = ss.length - k ∧ k ≤ ss.length ∧ t = .int .i64 k ∧ Sets W ss rr kp k wz)
                case atStart => exact ⟨0, rfl, Nat.zero_le _, rfl, S0.out⟩
                case round =>
                  obtain ⟨k, rfl, hk, rfl, hS⟩ := hrel
                  have HSE : Hid (Sets W ss rr kp k wr) := hS
                  clear hS S0
                  by_cases hlt : k < ss.length
                  · have hA := HA.out.below HSE.out.2
                    obtain ⟨b, off, rfl, hc⟩ := hA.1 (by omega)
                    have hck := hc k hlt
                    have HRA : Hid (RunsAt wr.drew a2 rr) := (hA.2 : RunsAt wr a2 rr)
                    have HKD : Hid (Kn wr.drew W.heap.size wr.heap.size kp (setN ss rr k) (szN ss rr k) k) := HSE.out.1.kept (fun _ _ _ => rfl)
                    have HBD : Hid (Below W.heap.size W wr.drew) := HSE.out.2.drew
                    have HNK : Hid (nm ss k = ss[k].data.toList) := nm_at ss k hlt
                    have HSK : Hid (ss[k].size ≤ 1048576) := Nat.le_trans (sumS_ge ss k hlt) HS.out.name
                    clear hc hA
                    obtain ⟨y, hy⟩ : ∃ y, ss[k] = y := ⟨_, rfl⟩
                    rw [hy] at hck HNK HSK
                    clear hy
                    have hI : (k : Int) < (ss.length : Int) := by omega
                    have HRL : Hid ((runAt rr k).length ≤ 1048576) := Nat.le_trans (runAt_small HS.out k) (by omega)
                    have HYM : Hid (y.size ≤ maxLen) := by show _ ≤ _; have := HSK.out; unfold maxLen; omega
                    go_wp2
                    go_region_with (first | (go_at_call 7; refine (runsAt_any a2 cap2 rr k wr.drew (by omega) (by omega) HRA.out).mono ?_; rintro e w9 ⟨⟨a', c', rfl, hrow⟩, rfl⟩) | (go_at_call 6; refine (set_any wr.drew W.heap.size wr.heap.size kp (szN ss rr k) k (setN ss rr k) y _ _ (runAt rr k) HRL.out HYM.out (by omega) (Nat.le_refl _) HKD.out hrow).mono ?_; rintro e w9 ⟨rfl, hK9, hb9, hkp9⟩))
                    all_goals
                      rw [← HNK.out] at hK9
                      have S1 : Aside (Sets W ss rr kp (k + 1) w9) := ⟨hK9, HBD.out.trans hb9⟩
                      clear hK9 hb9 hkp9 hrow HKD HBD HRA
                      go_wp2
                      go_roundg (ss.length - (k + 1))
                      case rel => exact ⟨k + 1, rfl, by omega, by go_num, S1.out⟩
                      case measure => omega
                  · obtain rfl : k = ss.length := by omega
                    clear hlt hk
                    rename World => W3
                    have HL : Hid (∀ l rs, setN ss rr ss.length l = some rs → rs.length ≤ 1048576) := set_len ss rr 1048576 (fun i => Nat.le_trans (runAt_small HS.out i) (by omega)) ss.length
                    have HKW : Hid (kp < W3.heap.size) := by
                      obtain ⟨_, _, q, _⟩ := HSE.out.1
                      exact q.2.1
                    go_wp2_with fail
                    refine (clone_any W3 W.heap.size W3.heap.size kp (szN ss rr ss.length) ss.length (setN ss rr ss.length) (by omega) (Nat.le_refl _) HL HSE.out.1).mono ?_
                    rintro e w4 ⟨⟨kpC, rfl, hK, cC, hcC⟩, hb4⟩
                    have hne : kpC ≠ kp := by
                      obtain ⟨_, _, q, _⟩ := hK
                      have := HKW.out
                      omega
                    have HT : Hid (Two W W3 w4 ss rr kp kpC) := by
                      have e := sz_d ss rr ss.length (Nat.le_refl _)
                      have h0 := HSE.out
                      unfold Sets at h0
                      rw [e] at hK h0
                      exact ⟨h0.1.below hb4 (Nat.le_refl _), hK, h0.2.trans (hb4.mono h0.2.size)⟩
                    have hpne : (binOp .eql 26 (.pointer (some ⟨kpC, 0, none⟩)) (.pointer (some ⟨kp, 0, none⟩))).run Try.prog w4 = .ok (.bool false) w4 := by
                      obtain ⟨_, _, _, q, _⟩ := HT.out.old
                      exact run_ptr_ne w4 kpC kp cC 42 _ hne hcC q
                    clear hK hb4 HSE HL HKW hcC hne
                    go_wp2
                    go_loopg [11, 12] ss.length (fun g z t wz => ∃ k : Nat, g = ss.length - k ∧ k ≤ ss.length ∧ t = .int .i64 k ∧ z = .int .i64 (dN ss k : Nat) ∧ ∃ m, wz = w4.drewN m)
                    case atStart => exact ⟨0, rfl, Nat.zero_le _, rfl, rfl, 0, rfl⟩
                    case round =>
                      obtain ⟨k, rfl, hk, rfl, rfl, m, rfl⟩ := hrel
                      clear hpne
                      have hdk := d_le ss k
                      by_cases hlt : k < ss.length
                      · have HNA : Hid (NamesAt (w4.drewN m) a ss) := HA.out.1.below (below_drewN HT.out.bel m)
                        have hI : (k : Int) < (ss.length : Int) := by omega
                        go_wp2_with fail
                        refine (first_any a cap ss k (w4.drewN m) (by omega) hlt HNA.out).mono ?_
                        rintro e w9 ⟨rfl, n9, rfl⟩
                        cases hfb : firstB ss k with
                        | false =>
                          have HD : Hid (dN ss (k + 1) = dN ss k) := by show dN ss (k + 1) = _; simp [dN, hfb]
                          go_wp2
                          go_roundg (ss.length - (k + 1))
                          case rel => exact ⟨k + 1, rfl, by omega, by go_num, by rw [HD.out], m + n9, rfl⟩
                          case measure => omega
                        | true =>
                          have HD : Hid (dN ss (k + 1) = dN ss k + 1) := by show dN ss (k + 1) = _; simp [dN, hfb]
                          go_wp2
                          go_roundg (ss.length - (k + 1))
                          case rel => exact ⟨k + 1, rfl, by omega, by go_num, by rw [HD.out]; go_num, m + n9, rfl⟩
                          case measure => omega
                      · obtain rfl : k = ss.length := by omega
                        clear hlt hk
                        have hST : St W W3 w4.heap.size ss rr kp kpC (setN ss rr ss.length) (dN ss ss.length) (dN ss ss.length) (w4.drewN m) := ⟨HT.out.old.drewN m, HT.out.new.drewN m, below_drewN HT.out.bel m, Nat.le_refl _⟩
                        obtain ⟨W5, hW5⟩ : ∃ W5, W5 = w4.drewN m := ⟨_, rfl⟩
                        rw [← hW5] at hST ⊢
                        have hwb : W3.heap.size < w4.heap.size := hST.ends
                        have HST : Hid (St W W3 w4.heap.size ss rr kp kpC (setN ss rr ss.length) (dN ss ss.length) (dN ss ss.length) W5) := hST
                        clear hST HT hW5
                        obtain ⟨B, hB⟩ : ∃ B, w4.heap.size = B := ⟨_, rfl⟩
                        rw [hB] at HST
                        clear hB hwb
                        go_wp2_with (first | (go_at_call 10; first | (refine (len_any _ _ _ kpC _ _ _ HST.out.new).mono ?_; rintro e w9 ⟨rfl, rfl⟩) | (refine (len_any _ _ _ kp _ _ _ HST.out.old).mono ?_; rintro e w9 ⟨rfl, rfl⟩)))
                        go_loopg [13] ss.length (fun g t wz => ∃ k : Nat, g = ss.length - k ∧ k ≤ ss.length ∧ t = .int .i64 k ∧ St W W3 B ss rr kp kpC (setN ss rr ss.length) (dN ss ss.length) (dN ss ss.length) wz)
                        case atStart => exact ⟨0, rfl, Nat.zero_le _, rfl, HST.out⟩
                        case round =>
                          obtain ⟨k, rfl, hk, rfl, hS⟩ := hrel
                          have HS5 : Hid (St W W3 B ss rr kp kpC (setN ss rr ss.length) (dN ss ss.length) (dN ss ss.length) wr) := hS
                          clear hS HST hdk
                          by_cases hlt : k < ss.length
                          · have HNA : Hid (NamesAt wr a ss) := HA.out.1.below HS5.out.bel
                            have hI : (k : Int) < (ss.length : Int) := by omega
                            go_wp2_with fail
                            refine (first_any a cap ss k wr (by omega) hlt HNA.out).mono ?_
                            rintro e w9 ⟨rfl, n9, hw9⟩
                            have HS6 := HS5.out.step (Below.ofDrewN hw9)
                            have HS7 : Hid (St W W3 B ss rr kp kpC (setN ss rr ss.length) (dN ss ss.length) (dN ss ss.length) w9) := HS6
                            clear HNA HS6 HS5 hw9
                            cases hfb : firstB ss k with
                            | false =>
                              go_wp2
                              go_roundg (ss.length - (k + 1))
                              case rel => exact ⟨k + 1, rfl, by omega, by go_num, HS7.out⟩
                              case measure => omega
                            | true =>
                              go_wp2_with fail
                              refine (last_any a cap ss k w9 (by omega) hlt (HA.out.1.below HS7.out.bel)).mono ?_
                              rintro e w8 ⟨rfl, n8, hw8⟩
                              have HS6 := HS7.out.step (Below.ofDrewN hw8)
                              have HS8 : Hid (St W W3 B ss rr kp kpC (setN ss rr ss.length) (dN ss ss.length) (dN ss ss.length) w8) := HS6
                              have hll := last_le ss k hlt ss.length (Nat.le_refl _)
                              clear HS6 HS7 hw8
                              go_wp2_with fail
                              refine (runsAt_any a2 cap2 rr (lastN ss k ss.length) w8 (by omega) (by omega) (HA.out.2.below HS8.out.bel)).mono ?_
                              rintro e w7 ⟨⟨a', c', rfl, hrow⟩, rfl⟩
                              have hset := set_want ss rr k hlt
                              have hRl := runAt_small HS.out (lastN ss k ss.length)
                              unfold wantAt at hset
                              obtain ⟨R, hR⟩ : ∃ R, runAt rr (lastN ss k ss.length) = R := ⟨_, rfl⟩
                              rw [hR] at hset hrow hRl ⊢
                              rw [nm_at ss k hlt] at hset
                              obtain ⟨b, off, rfl, hc⟩ := HA.out.1.below HS8.out.bel (by omega)
                              have hck := hc k hlt
                              have hyl := Nat.le_trans (sumS_ge ss k hlt) HS.out.name
                              obtain ⟨y, hy⟩ : ∃ y, ss[k] = y := ⟨_, rfl⟩
                              rw [hy] at hset hck hyl
                              have HRow : Hid (RowAt w7 a' R) := hrow
                              have HG1 : Hid ((setN ss rr ss.length y.data.toList).getD [] = R) := by show _ = _; rw [hset]; rfl
                              have HG2 : Hid ((setN ss rr ss.length y.data.toList).isSome = true) := by show _ = _; rw [hset]; rfl
                              have HYM : Hid (y.size ≤ maxLen) := by show _ ≤ _; unfold maxLen; omega
                              clear hset hR hc hy hrow hyl
                              go_wp2_with fail
                              refine (get_any w7 W3.heap.size B kpC _ _ _ y R true (by omega) HYM.out HG1 HG2 HS8.out.new).mono ?_
                              rintro e w6 ⟨⟨ag, cg, rfl, hrowg⟩, hb6⟩
                              have HS9 : Hid (St W W3 B ss rr kp kpC (setN ss rr ss.length) (dN ss ss.length) (dN ss ss.length) w6) := HS8.out.step hb6
                              have HRow6 : Hid (RowAt w6 a' R ∧ RowAt w6 ag R) := ⟨HRow.out.below hb6, hrowg⟩
                              clear hb6 hrowg HS8 HRow hck
                              go_wp2_with fail
                              refine (same_yes ag a' cg c' R w6 (by omega) HRow6.out.2 HRow6.out.1).mono ?_
                              rintro e w5 ⟨rfl, n5, hw5⟩
                              have HS10 : Hid (St W W3 B ss rr kp kpC (setN ss rr ss.length) (dN ss ss.length) (dN ss ss.length) w5) := HS9.out.step (Below.ofDrewN hw5)
                              clear HS9 HRow6 hw5
                              go_wp2
                              go_roundg (ss.length - (k + 1))
                              case rel => exact ⟨k + 1, rfl, by omega, by go_num, HS10.out⟩
                              case measure => omega
                          · obtain rfl : k = ss.length := by omega
                            clear hlt hk
                            rename World => W6
                            go_wp2
                            go_loopg [17] ss.length (fun g t wz => ∃ k : Nat, g = ss.length - k ∧ k ≤ ss.length ∧ t = .int .i64 k ∧ St W W3 B ss rr kp kpC (pokeN ss rr k) (dN ss ss.length) (dN ss ss.length) wz)
                            case atStart => exact ⟨0, rfl, Nat.zero_le _, rfl, HS5.out⟩
                            case round =>
                              obtain ⟨k, rfl, hk, rfl, hS⟩ := hrel
                              have HS6 : Hid (St W W3 B ss rr kp kpC (pokeN ss rr k) (dN ss ss.length) (dN ss ss.length) wr) := hS
                              clear hS HS5
                              by_cases hlt : k < ss.length
                              · have HNA : Hid (NamesAt wr a ss) := HA.out.1.below HS6.out.bel
                                have hI : (k : Int) < (ss.length : Int) := by omega
                                go_wp2_with fail
                                refine (first_any a cap ss k wr (by omega) hlt HNA.out).mono ?_
                                rintro e w9 ⟨rfl, n9, hw9⟩
                                have HS7 : Hid (St W W3 B ss rr kp kpC (pokeN ss rr k) (dN ss ss.length) (dN ss ss.length) w9) := HS6.out.step (Below.ofDrewN hw9)
                                clear HNA HS6 hw9
                                cases hfb : firstB ss k with
                                | false =>
                                  have HP : Hid (pokeN ss rr (k + 1) = pokeN ss rr k) := by show pokeN ss rr (k + 1) = _; simp [pokeN, hfb]
                                  go_wp2
                                  go_roundg (ss.length - (k + 1))
                                  case rel => exact ⟨k + 1, rfl, by omega, by go_num, by rw [HP.out]; exact HS7.out⟩
                                  case measure => omega
                                | true =>
                                  have HP : Hid (pokeN ss rr (k + 1) = upd (pokeN ss rr k) (nm ss k) (flip (wantAt ss rr k))) := by show pokeN ss rr (k + 1) = _; simp [pokeN, hfb]
                                  have HQ : Hid (pokeN ss rr k (nm ss k) = some (wantAt ss rr k)) := by
                                    show _ = _
                                    rw [poke_at ss rr k hlt hfb k (by omega), if_neg (Nat.lt_irrefl _)]
                                  go_wp2_with fail
                                  refine (last_any a cap ss k w9 (by omega) hlt (HA.out.1.below HS7.out.bel)).mono ?_
                                  rintro e w8 ⟨rfl, n8, hw8⟩
                                  have HS8 : Hid (St W W3 B ss rr kp kpC (pokeN ss rr k) (dN ss ss.length) (dN ss ss.length) w8) := HS7.out.step (Below.ofDrewN hw8)
                                  have hll := last_le ss k hlt ss.length (Nat.le_refl _)
                                  clear HS7 hw8
                                  go_wp2_with fail
                                  refine (runsAt_any a2 cap2 rr (lastN ss k ss.length) w8 (by omega) (by omega) (HA.out.2.below HS8.out.bel)).mono ?_
                                  rintro e w7 ⟨⟨a', c', rfl, hrow⟩, rfl⟩
                                  have hRl := runAt_small HS.out (lastN ss k ss.length)
                                  have hR : runAt rr (lastN ss k ss.length) = wantAt ss rr k := rfl
                                  rw [hR] at hrow hRl ⊢
                                  obtain ⟨R, hR2⟩ : ∃ R, wantAt ss rr k = R := ⟨_, rfl⟩
                                  rw [hR2] at HP HQ hrow hRl ⊢
                                  clear hR hR2
                                  cases R with
                                  | nil =>
                                    have HP2 : Hid (pokeN ss rr (k + 1) = pokeN ss rr k) := by
                                      show _ = _
                                      rw [HP.out]; exact upd_same _ _ _ HQ.out
                                    go_wp2
                                    go_roundg (ss.length - (k + 1))
                                    case rel => exact ⟨k + 1, rfl, by omega, by go_num, by rw [HP2.out]; exact HS8.out⟩
                                    case measure => omega
                                  | cons p R =>
                                    obtain ⟨b, off, rfl, hc⟩ := HA.out.1.below HS8.out.bel (by omega)
                                    have hck := hc k hlt
                                    have hyl := Nat.le_trans (sumS_ge ss k hlt) HS.out.name
                                    rw [nm_at ss k hlt] at HP HQ
                                    obtain ⟨y, hy⟩ : ∃ y, ss[k] = y := ⟨_, rfl⟩
                                    rw [hy] at HP HQ hck hyl
                                    have HYM : Hid (y.size ≤ maxLen) := by show _ ≤ _; unfold maxLen; omega
                                    obtain ⟨b2, o2, rfl, hc2⟩ := hrow (by simp)
                                    obtain ⟨x2, y2⟩ := hc2 0 (by simp)
                                    simp only [List.getElem_cons_zero, Nat.zero_mul, Nat.add_zero] at x2 y2
                                    have hp0 : (0 : Int) < (R.length : Int) + 1 := by omega
                                    have HKD : Hid (Kn w7.drew W3.heap.size B kpC (pokeN ss rr k) (dN ss ss.length) (dN ss ss.length)) := HS8.out.new.kept (fun _ _ _ => rfl)
                                    have HSD : Hid (St W W3 B ss rr kp kpC (pokeN ss rr k) (dN ss ss.length) (dN ss ss.length) w7.drew) := HS8.out.step (Below.refl _ _).drew
                                    clear hc hc2 hy hrow hyl HS8
                                    go_wp2
                                    go_region_with (first | (go_at_call 14; refine (poke_any w7.drew W3.heap.size B kpC _ _ (pokeN ss rr k) y p R (nt p.1) (nt p.2) HYM.out HQ HKD).mono ?_; rintro e w6 ⟨rfl, hK6, hb6, hs6⟩))
                                    all_goals
                                      have HS9 : Hid (St W W3 B ss rr kp kpC (pokeN ss rr (k + 1)) (dN ss ss.length) (dN ss ss.length) w6) := by
                                        show St W W3 B ss rr kp kpC _ _ _ _
                                        rw [HP.out]
                                        exact HSD.out.poke hb6 hK6 (by rw [hs6]; exact HSD.out.fits)
                                      clear hK6 hb6 hs6 HKD HSD HP HQ x2 y2 hck
                                      go_wp2
                                      go_roundg (ss.length - (k + 1))
                                      case rel => exact ⟨k + 1, rfl, by omega, by go_num, HS9.out⟩
                                      case measure => omega
                              · obtain rfl : k = ss.length := by omega
                                clear hlt hk
                                rename World => W7
                                obtain ⟨i5, hi5, hz0, hz1, hz2⟩ := info_parts info5
                                have HI5 : Hid (Try.prog.info? 5 = some i5 ∧ i5.zero = some (.int .u8 0) ∧ i5.size = 1 ∧ i5.bytes = 1) := ⟨hi5, hz0, hz1, hz2⟩
                                clear hi5 hz0 hz1 hz2
                                go_wp2_with (first | (at_make; refine wpList_make_own _ rfl _ _ 39 rfl W7.heap.size 5 i5 _ 1 Try.underlying39 HI5.out.1 HI5.out.2.1 HI5.out.2.2.1 .i64 .i64 (x + 1) (x + 1).toNat rfl rfl (by omega) (by rw [HI5.out.2.2.2]; omega) (by unfold maxLen; omega) (Nat.le_refl _) ?_))
                                intro w9 ho9 hg9
                                have HF0 : Hid (Fresh W7 (.slice (some ⟨W7.heap.size, 0, none⟩) 0 (x + 1).toNat) (frN ss 0) w9) := ⟨ho9, by simp⟩
                                have HS8 : Hid (St W W3 B ss rr kp kpC (pokeN ss rr ss.length) (dN ss ss.length) (dN ss ss.length) w9) := HS6.out.step ((Below.refl _ _).grown hg9 (Nat.le_refl _) (fun k hk => by cases hk))
                                have hsz9 : W7.heap.size ≤ w9.heap.size := hg9.size
                                have hB7 : B ≤ W7.heap.size := HS6.out.fits
                                clear ho9 hg9 HS6
                                go_wp2
                                go_loopg [19, 20] ss.length (fun g z t wz => ∃ k : Nat, g = ss.length - k ∧ k ≤ ss.length ∧ t = .int .i64 k ∧ Fresh W7 z (frN ss k) wz ∧ St W W3 B ss rr kp kpC (pokeN ss rr ss.length) (dN ss ss.length) (dN ss ss.length) wz ∧ W7.heap.size ≤ wz.heap.size)
                                case atStart => exact ⟨0, rfl, Nat.zero_le _, rfl, HF0.out, HS8.out, hsz9⟩
                                case round =>
                                  obtain ⟨k, rfl, hk, rfl, hFr, hS, hszr⟩ := hrel
                                  have HF : Hid (Fresh W7 u19 (frN ss k) wr) := hFr
                                  have HS9 : Hid (St W W3 B ss rr kp kpC (pokeN ss rr ss.length) (dN ss ss.length) (dN ss ss.length) wr) := hS
                                  clear hFr hS HF0 HS8 hsz9
                                  by_cases hlt : k < ss.length
                                  · obtain ⟨b, off, rfl, hc⟩ := HA.out.1.below HS9.out.bel (by omega)
                                    have hck := hc k hlt
                                    have hsum : (frN ss (k + 1)).length ≤ 1048576 := by
                                      rw [fr_len ss (k + 1) (by omega)]
                                      have q := sumS_mono ss (ss.length - (k + 1)) (k + 1)
                                      rw [show k + 1 + (ss.length - (k + 1)) = ss.length from by omega] at q
                                      exact Nat.le_trans q HS.out.name
                                    have hfr : frN ss (k + 1) = frN ss k ++ ss[k].data.toList := by rw [← nm_at ss k hlt]; rfl
                                    rw [hfr, List.length_append] at hsum
                                    obtain ⟨y, hy⟩ : ∃ y, ss[k] = y := ⟨_, rfl⟩
                                    rw [hy] at hck hsum hfr
                                    have hyl : y.data.toList.length = y.size := by rw [Array.length_toList]; rfl
                                    have HFR : Hid (frN ss (k + 1) = frN ss k ++ y.data.toList ∧ y.data.toList.length = y.size) := ⟨hfr, hyl⟩
                                    have HSU : Hid ((frN ss k).length + y.size ≤ 1048576) := by rw [← hyl]; exact hsum
                                    clear hc hfr hy hsum hyl
                                    have hI : (k : Int) < (ss.length : Int) := by omega
                                    go_wp2_with (first | (at_builtin; refine Go.Lib.wpList_append_own_string _ rfl (.tmp 195) (.tmp 199) 39 9 rfl W7.heap.size 5 i5 Try.underlying39 Try.underlying9 HI5.out.1 HI5.out.2.1 HI5.out.2.2.1 HI5.out.2.2.2 _ (frN ss k).length (cellsOf (frN ss k)) rfl HF.out.1 y rfl (by have := HSU.out; unfold maxLen; omega) (by have := HSU.out; omega) hszr ?_))
                                    intro v9 w9 ho9 hg9 hi9
                                    have hF9 : Fresh W7 v9 (frN ss (k + 1)) w9 := by
                                      rw [HFR.out.1]
                                      exact fresh_next ho9 HFR.out.2.symm (fun q => (hi9.1 q).1) HF.out.2
                                    have hS10 := HS9.out.stepB (fresh_grow (Nat.le_refl _) hszr HF.out hg9) hB7
                                    have A9 : Aside (Fresh W7 v9 (frN ss (k + 1)) w9 ∧ St W W3 B ss rr kp kpC (pokeN ss rr ss.length) (dN ss ss.length) (dN ss ss.length) w9 ∧ W7.heap.size ≤ w9.heap.size) := ⟨hF9, hS10, Nat.le_trans hszr hg9.size⟩
                                    clear ho9 hg9 hi9 hF9 hS10 HS9 HF HFR HSU hck
                                    go_wp2
                                    go_roundg (ss.length - (k + 1))
                                    case rel => exact ⟨k + 1, rfl, by omega, by go_num, A9.out⟩
                                    case measure => omega
                                  · obtain rfl : k = ss.length := by omega
                                    clear hlt hk
                                    have HLN : Hid ((frN ss ss.length).length = sumS ss ss.length ∧ sumS ss ss.length ≤ 1048576) := ⟨fr_len ss _ (Nat.le_refl _), HS.out.name⟩
                                    go_wp2_with (first | (at_builtin; refine wpList_append_own _ rfl (.tmp 201) (.tmp 202) 39 rfl W7.heap.size 5 i5 (.int .u8 0) 1 1 Try.underlying39 HI5.out.1 HI5.out.2.1 HI5.out.2.2.1 HI5.out.2.2.2 rfl (by decide) _ (frN ss ss.length).length (cellsOf (frN ss ss.length)) rfl (HF.out.1.alloc _) ⟨wr.heap.size, 0, none⟩ 1 1 [.int .u8 35] rfl rfl ?c1 ?c2 ?c3 ?c4 ?c5 ?_))
                                    case c1 =>
                                      intro j u hj
                                      cases j with
                                      | zero => cases hj; simp [Addr.add_lit]
                                      | succ j => cases hj
                                    case c2 =>
                                      intro u hu
                                      simp only [List.mem_singleton] at hu
                                      rw [hu]; rfl
                                    case c3 => have := HLN.out; unfold maxLen; omega
                                    case c4 => have := HLN.out; omega
                                    case c5 => simp; omega
                                    intro v9 w9 ho9 hg9 hi9
                                    have hF9 : Fresh W7 v9 (frN ss ss.length ++ [35]) w9 := fresh_next ho9 rfl (fun q => (hi9 q).elim) HF.out.2
                                    have hFa : Fresh W7 u19 (frN ss ss.length) (wr.alloc (.cells #[.int .u8 35] 5)) := ⟨HF.out.1.alloc _, HF.out.2⟩
                                    have hbel : Below W7.heap.size wr w9 := ((Below.refl _ _).alloc hszr _).trans (fresh_grow (Nat.le_refl _) (by simp; omega) hFa hg9)
                                    have HS10 : Hid (St W W3 B ss rr kp kpC (pokeN ss rr ss.length) (dN ss ss.length) (dN ss ss.length) w9) := HS9.out.stepB hbel hB7
                                    have hLL : (frN ss ss.length ++ [35]).length = sumS ss ss.length + 1 := by rw [List.length_append, HLN.out.1]; rfl
                                    clear ho9 hg9 hi9 hFa hbel HS9 HF
                                    obtain ⟨L, hL⟩ : ∃ L, frN ss ss.length ++ [35] = L := ⟨_, rfl⟩
                                    rw [hL] at hF9 hLL
                                    obtain ⟨b, cap9, hb, rfl, hcells⟩ := fresh_read hF9
                                    obtain ⟨F, hF⟩ : ∃ F : ByteArray, F = ⟨L.toArray⟩ := ⟨_, rfl⟩
                                    have hconv := conv_in w9 b cap9 L F hF hcells
                                    have HCL : Hid (∀ j (hj : j < L.length), w9.cell? ((⟨b, 0, none⟩ : Addr).add j) = some (.int .u8 L[j].toNat)) := hcells
                                    have HFF : Hid (F = ⟨L.toArray⟩) := hF
                                    have HFS : Hid (F.size = sumS ss ss.length + 1) := by
                                      show _ = _
                                      rw [hF, ← hLL]; rfl
                                    have HLL : Hid (L.length = sumS ss ss.length + 1) := hLL
                                    have HBW : Hid (B ≤ b ∧ b < w9.heap.size) := ⟨by omega, World.block_lt_of_cell? w9 _ (HCL.out 0 (by omega))⟩
                                    have HFM : Hid (F.size ≤ maxLen) := by
                                      have h1 := HFS.out; have h2 := HLN.out.2
                                      show _ ≤ _
                                      unfold maxLen; omega
                                    have hdk9 := d_le ss ss.length
                                    have HFN : Hid (∀ j, j < ss.length → nm ss j ≠ F.data.toList) := fun j hj => fresh_ne ss F (by rw [HFS.out]; omega) j hj
                                    clear hF9 hLL hcells hF hL
                                    go_wp2_with fail
                                    refine (set_any w9 W3.heap.size B kpC _ _ (pokeN ss rr ss.length) F none 0 [] (by simp) HFM.out (by omega) HS10.out.fits HS10.out.new (fun q => absurd q (by simp))).mono ?_
                                    rintro e w8 ⟨rfl, hK8, hb8, hkp8⟩
                                    have hnone : pokeN ss rr ss.length F.data.toList = none := poke_none ss rr _ HFN.out ss.length (Nat.le_refl _)
                                    have hup : szUp (pokeN ss rr ss.length) F.data.toList (dN ss ss.length) = dN ss ss.length + 1 := by simp [szUp, hnone]
                                    rw [hup] at hK8
                                    have HS11 : Hid (St W W3 w8.heap.size ss rr kp kpC (upd (pokeN ss rr ss.length) F.data.toList []) (dN ss ss.length + 1) (dN ss ss.length + 1) w8) := HS10.out.poke hb8 hK8 (Nat.le_refl _)
                                    have hconv8 := conv_in w8 b cap9 L F HFF.out (fun j hj => by
                                      have h0 := HCL.out j hj
                                      rw [Addr.add_lit] at h0 ⊢
                                      exact (cell_heap (hkp8 b HBW.out.1 HBW.out.2)).trans h0)
                                    clear hK8 hb8 hkp8 hnone hup HCL HFF HBW HS10 hconv
                                    obtain ⟨B8, hB8⟩ : ∃ B8, w8.heap.size = B8 := ⟨_, rfl⟩
                                    rw [hB8] at HS11
                                    clear hB8
                                    go_wp2_with (first | (go_at_call 10; first | (refine (len_any _ _ _ kpC _ _ _ HS11.out.new).mono ?_; rintro e w9 ⟨rfl, rfl⟩) | (refine (len_any _ _ _ kp _ _ _ HS11.out.old).mono ?_; rintro e w9 ⟨rfl, rfl⟩)))
                                    have HN1 : Hid ((setN ss rr ss.length F.data.toList).getD [] = ([] : List (Int × Int))) := by show _ = _; rw [set_none ss rr _ ss.length HFN.out]; rfl
                                    have HN2 : Hid ((setN ss rr ss.length F.data.toList).isSome = false) := by show _ = _; rw [set_none ss rr _ ss.length HFN.out]; rfl
                                    refine (get_any _ W.heap.size W3.heap.size kp _ _ _ F [] false (by simp) HFM.out HN1 HN2 HS11.out.old).mono ?_
                                    rintro e w7 ⟨⟨ag, cg, rfl, hrowg⟩, hb7⟩
                                    have HS12 : Hid (St W W3 B8 ss rr kp kpC (upd (pokeN ss rr ss.length) F.data.toList []) (dN ss ss.length + 1) (dN ss ss.length + 1) w7) := HS11.out.step hb7
                                    clear hrowg hb7 HS11 HN1 HN2 hconv8
                                    go_wp2
                                    go_loopg [23] ss.length (fun g t wz => ∃ k : Nat, g = ss.length - k ∧ k ≤ ss.length ∧ t = .int .i64 k ∧ St W W3 B8 ss rr kp kpC (upd (pokeN ss rr ss.length) F.data.toList []) (dN ss ss.length + 1) (dN ss ss.length + 1) wz)
                                    case atStart => exact ⟨0, rfl, Nat.zero_le _, rfl, HS12.out⟩
                                    case round =>
                                      obtain ⟨k, rfl, hk, rfl, hS⟩ := hrel
                                      obtain ⟨fC, hfC⟩ : ∃ fC, upd (pokeN ss rr ss.length) F.data.toList [] = fC := ⟨_, rfl⟩
                                      rw [hfC] at hS
                                      have HFC : Hid (upd (pokeN ss rr ss.length) F.data.toList [] = fC) := hfC
                                      have HS5 : Hid (St W W3 B8 ss rr kp kpC fC (dN ss ss.length + 1) (dN ss ss.length + 1) wr) := hS
                                      clear hS HS12 hfC
                                      by_cases hlt : k < ss.length
                                      · have HNA : Hid (NamesAt wr a ss) := HA.out.1.below HS5.out.bel
                                        have hI : (k : Int) < (ss.length : Int) := by omega
                                        go_wp2_with fail
                                        refine (first_any a cap ss k wr (by omega) hlt HNA.out).mono ?_
                                        rintro e w9 ⟨rfl, n9, hw9⟩
                                        have HS7 : Hid (St W W3 B8 ss rr kp kpC fC (dN ss ss.length + 1) (dN ss ss.length + 1) w9) := HS5.out.step (Below.ofDrewN hw9)
                                        clear HNA HS5 hw9
                                        cases hfb : firstB ss k with
                                        | false =>
                                          go_wp2
                                          go_roundg (ss.length - (k + 1))
                                          case rel => exact ⟨k + 1, rfl, by omega, by go_num, by rw [HFC.out]; exact HS7.out⟩
                                          case measure => omega
                                        | true =>
                                          have hfCk : fC (nm ss k) = some (flip (wantAt ss rr k)) := by
                                            rw [← HFC.out]
                                            unfold upd
                                            rw [if_neg (HFN.out k hlt), poke_at ss rr k hlt hfb ss.length (Nat.le_refl _), if_pos hlt]
                                          have HFK : Hid (fC (nm ss k) = some (flip (wantAt ss rr k))) := hfCk
                                          clear hfCk
                                          go_wp2_with fail
                                          refine (last_any a cap ss k w9 (by omega) hlt (HA.out.1.below HS7.out.bel)).mono ?_
                                          rintro e w8 ⟨rfl, n8, hw8⟩
                                          have HS8 : Hid (St W W3 B8 ss rr kp kpC fC (dN ss ss.length + 1) (dN ss ss.length + 1) w8) := HS7.out.step (Below.ofDrewN hw8)
                                          have hll := last_le ss k hlt ss.length (Nat.le_refl _)
                                          clear HS7 hw8
                                          go_wp2_with fail
                                          refine (runsAt_any a2 cap2 rr (lastN ss k ss.length) w8 (by omega) (by omega) (HA.out.2.below HS8.out.bel)).mono ?_
                                          rintro e w7 ⟨⟨a', c', rfl, hrow⟩, rfl⟩
                                          have hset := set_want ss rr k hlt
                                          have hRl := runAt_small HS.out (lastN ss k ss.length)
                                          have hR0 : runAt rr (lastN ss k ss.length) = wantAt ss rr k := rfl
                                          rw [hR0] at hrow hRl ⊢
                                          clear hR0
                                          obtain ⟨R, hR⟩ : ∃ R, wantAt ss rr k = R := ⟨_, rfl⟩
                                          rw [hR] at hset hrow hRl HFK ⊢
                                          rw [nm_at ss k hlt] at hset HFK
                                          obtain ⟨b, off, rfl, hc⟩ := HA.out.1.below HS8.out.bel (by omega)
                                          have hck := hc k hlt
                                          have hyl := Nat.le_trans (sumS_ge ss k hlt) HS.out.name
                                          obtain ⟨y, hy⟩ : ∃ y, ss[k] = y := ⟨_, rfl⟩
                                          rw [hy] at hset hck hyl HFK
                                          have HRow : Hid (RowAt w7 a' R) := hrow
                                          have HG1 : Hid ((setN ss rr ss.length y.data.toList).getD [] = R) := by show _ = _; rw [hset]; rfl
                                          have HG2 : Hid ((setN ss rr ss.length y.data.toList).isSome = true) := by show _ = _; rw [hset]; rfl
                                          have HG3 : Hid ((fC y.data.toList).getD [] = flip R) := by show _ = _; rw [HFK.out]; rfl
                                          have HG4 : Hid ((fC y.data.toList).isSome = true) := by show _ = _; rw [HFK.out]; rfl
                                          have HYM : Hid (y.size ≤ maxLen) := by show _ ≤ _; unfold maxLen; omega
                                          clear hset hR hc hy hrow hyl HFK
                                          go_wp2_with fail
                                          refine (get_any w7 W.heap.size W3.heap.size kp _ _ _ y R true (by omega) HYM.out HG1 HG2 HS8.out.old).mono ?_
                                          rintro e w6 ⟨⟨ag, cg, rfl, hrowg⟩, hb6⟩
                                          have HS9 : Hid (St W W3 B8 ss rr kp kpC fC (dN ss ss.length + 1) (dN ss ss.length + 1) w6) := HS8.out.step hb6
                                          have HRow6 : Hid (RowAt w6 a' R ∧ RowAt w6 ag R) := ⟨HRow.out.below hb6, hrowg⟩
                                          have hck6 := (hb6.cell (p := ⟨_, _, none⟩) (World.block_lt_of_cell? _ _ hck)).trans hck
                                          clear hb6 hrowg HS8 HRow hck HG1 HG2
                                          go_wp2_with fail
                                          refine (same_yes ag a' cg c' R w6 (by omega) HRow6.out.2 HRow6.out.1).mono ?_
                                          rintro e w5 ⟨rfl, n5, hw5⟩
                                          have hb5 := Below.ofDrewN hw5
                                          have HS10 : Hid (St W W3 B8 ss rr kp kpC fC (dN ss ss.length + 1) (dN ss ss.length + 1) w5) := HS9.out.step hb5
                                          have HRow5 : Hid (RowAt w5 a' R) := HRow6.out.1.below hb5
                                          have hck5 := (hb5.cell (p := ⟨_, _, none⟩) (World.block_lt_of_cell? _ _ hck6)).trans hck6
                                          clear HS9 HRow6 hw5 hb5 hck6
                                          go_wp2_with fail
                                          refine (get_any w5 W3.heap.size B8 kpC _ _ _ y (flip R) true (by rw [flip_length]; omega) HYM.out HG3 HG4 HS10.out.new).mono ?_
                                          rintro e w4' ⟨⟨af, cf, rfl, hrowf⟩, hb4⟩
                                          rw [flip_length]
                                          have HS11 : Hid (St W W3 B8 ss rr kp kpC fC (dN ss ss.length + 1) (dN ss ss.length + 1) w4') := HS10.out.step hb4
                                          have HRow4 : Hid (RowAt w4' a' R ∧ RowAt w4' af (flip R)) := ⟨HRow5.out.below hb4, hrowf⟩
                                          clear hb4 hrowf HS10 HRow5 hck5 HG3 HG4
                                          go_wp2_with fail
                                          refine (flip_yes af a' cf c' R w4' (by omega) HRow4.out.2 HRow4.out.1).mono ?_
                                          rintro e w3 ⟨rfl, n3, hw3⟩
                                          have HS12 : Hid (St W W3 B8 ss rr kp kpC fC (dN ss ss.length + 1) (dN ss ss.length + 1) w3) := HS11.out.step (Below.ofDrewN hw3)
                                          clear HS11 HRow4 hw3
                                          go_wp2
                                          go_roundg (ss.length - (k + 1))
                                          case rel => exact ⟨k + 1, rfl, by omega, by go_num, by rw [HFC.out]; exact HS12.out⟩
                                          case measure => omega
                                      · obtain rfl : k = ss.length := by omega
                                        clear hlt hk
                                        go_wp2
                                        go_ret
                                        exact ⟨rfl, HS5.out.bel⟩
      · have h2' : (4096 : Int) < (rr.length : Int) := by omega
        go_wp2
        go_ret
        exact ⟨rfl, Below.refl _ _⟩
    · have h1' : (4096 : Int) < (ss.length : Int) := by omega
      go_wp2
      go_ret
      exact ⟨rfl, Below.refl _ _⟩
end Go.Proofs.Qxb6620908a
