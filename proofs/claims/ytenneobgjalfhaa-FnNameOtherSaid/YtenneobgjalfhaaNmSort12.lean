/- pdqsort_func over an invariant: it ends, and the invariant stands. The conditions: fewer than 20 elements. -/
import Derived.Test.YtenneobgjalfhaaNmSort6
import Derived.Test.YtenneobgjalfhaaNmSort5
import Derived.Test.YtenneobgjalfhaaNmSort7
import Derived.Test.YtenneobgjalfhaaNmSort8
import Derived.Test.YtenneobgjalfhaaNmSort9
import Derived.Test.YtenneobgjalfhaaNmSort11
import Derived.Deep.LoopGhost
import Derived.Deep.Cut
import Derived.Deep.CutRange
import Derived.Deep.CutBlock
import Derived.Deep.DeepCutAuto
import Derived.Outline
set_option linter.unusedVariables false
set_option linter.unusedSimpArgs false
namespace Go.Proofs.Ytenneobgjalfhaa.So
open Go.RowKit Go.Proofs.Ytenneobgjalfhaa.K
section
variable {g sf : Nat} {lb sb : Array Value} {Inv : World → Prop} {blk B n : Nat}
structure St (Inv : World → Prop) (blk : Nat) (w wr : World) (cs : Array Value) : Prop where
  inv : Inv wr
  box : Blk wr w.heap.size 98 cs
  fr : ∀ j T cs, Blk w j T cs → j ≠ blk → Blk wr j T cs
  size : w.heap.size ≤ wr.heap.size
theorem St.step {w wr w3 : World} {cs : Array Value} (h : St Inv blk w wr cs) (hb : blk < w.heap.size) (hI : Inv w3) (hg : wr.grownBy w3 (some blk)) : St Inv blk w w3 cs :=
  ⟨hI, h.box.grown hg (by intro e; injection e with e; omega), fun j T cs hj hn => (h.fr j T cs hj hn).grown hg (by intro e; injection e with e; omega), Nat.le_trans h.size hg.size⟩
theorem St.stepF {w wr w3 : World} {cs : Array Value} (h : St Inv blk w wr cs) (hb : blk < w.heap.size) (hI : Inv w3) (hf : ∀ j T cs, Blk wr j T cs → j ≠ blk → Blk w3 j T cs) (hs : wr.heap.size ≤ w3.heap.size) : St Inv blk w w3 cs :=
  ⟨hI, hf _ _ _ h.box (by omega), fun j T cs hj hn => hf j T cs (h.fr j T cs hj hn) hn, Nat.le_trans h.size hs⟩
theorem St.c0 {w wr : World} {x y : Value} (h : St Inv blk w wr #[x, y]) : wr.cell? ⟨w.heap.size, 0, none⟩ = some x := by rw [h.box.cell]; rfl
theorem St.c1 {w wr : World} {x y : Value} (h : St Inv blk w wr #[x, y]) : wr.cell? ⟨w.heap.size, 1, none⟩ = some y := by rw [h.box.cell]; rfl
def PdqPost (Inv : World → Prop) (blk : Nat) (w : World) (e : Ending) (w' : World) : Prop := e = .returned (.tuple #[]) ∧ Inv w' ∧ (∀ j T cs, Blk w j T cs → j ≠ blk → Blk w' j T cs) ∧ w.heap.size ≤ w'.heap.size
set_option maxRecDepth 100000 in
set_option maxHeartbeats 8000000 in
theorem pdqsort_calls (hK : Keeps g sf lb sb Inv blk B n) (h20 : n < 20) (m : Nat) : ∀ (w : World) (hI : Inv w) (a b lim : Nat) (hm : b - a ≤ m) (hab : a ≤ b) (hb : b ≤ n) (hl : lim ≤ 100),
    Calls Try.prog 57 #[.agg #[.func (.func g) #[] lb, .func (.func sf) #[] sb], .int .i64 a, .int .i64 b, .int .i64 lim] w (PdqPost Inv blk w) := by
  induction m using Nat.strongRecOn with
  | _ m ih =>
  intro w hI a b lim hm hab hb hl
  have eg := hK.enters
  have hn := hK.most
  have hblk : blk < w.heap.size := Nat.lt_of_lt_of_le hK.row (hK.size w hI)
  have HK := Lib.hid hK
  have HIH := Lib.hid ih
  have HS0 := Lib.hid (show St Inv blk w (w.alloc (.cells #[.func (.func g) #[] lb, .func (.func sf) #[] sb] 98)) #[.func (.func g) #[] lb, .func (.func sf) #[] sb] from ⟨hK.grow _ _ none hI (World.grownBy_alloc w _ none) (by intro j hj; cases hj), Blk.new w _ _, fun j T cs hj _ => hj.alloc _, by simp⟩)
  clear hK hI ih
  go_enter Try.func57, Try.ntmps57
  go_wp2
  go_loopg [1, 2, 3, 8, 9] (b - a) (fun k vx vy vl vb vq wr => ∃ (x y l : Nat) (wb wq : Bool), k = y - x ∧ vx = .int .i64 x ∧ vy = .int .i64 y ∧ vl = .int .i64 l ∧ vb = .bool wb ∧ vq = .bool wq ∧ a ≤ x ∧ x ≤ y ∧ y ≤ b ∧ l ≤ 100 ∧ Hid (St Inv blk w wr #[.func (.func g) #[] lb, .func (.func sf) #[] sb]))
  case atStart => exact ⟨a, b, lim, true, true, rfl, rfl, rfl, rfl, rfl, rfl, Nat.le_refl _, hab, Nat.le_refl _, hl, HS0⟩
  case round =>
    clear HS0
    obtain ⟨x, y, l, wb, wq, hk, rfl, rfl, rfl, rfl, rfl, hax, hxy, hyb, hl1, HS⟩ := hrel
    have HKK := Lib.hid hk
    clear hk
    have c0 := HS.out.c0
    have c1 := HS.out.c1
    by_cases h12 : y - x ≤ 12
    · have h12z : (y : Int) - (x : Int) ≤ 12 := by omega
      have HC := Lib.hid (insertionSort_calls HK.out wr HS.out.inv x y hxy (by omega))
      go_wp2_with fail
      refine HC.out.mono ?_
      rintro e w1 ⟨rfl, hI1, hg1⟩
      have HS1 := Lib.hid (HS.out.step hblk hI1 hg1)
      clear hI1 hg1 HC
      go_wp2
      go_end0
      exact ⟨rfl, HS1.out.inv, HS1.out.fr, HS1.out.size⟩
    · have h12z : ¬ ((y : Int) - (x : Int) ≤ 12) := by omega
      by_cases hl0 : l = 0
      · subst hl0
        have HC := Lib.hid (heapSort_calls HK.out wr HS.out.inv x y hxy (by omega))
        go_wp2_with fail
        refine HC.out.mono ?_
        rintro e w1 ⟨rfl, hI1, hg1⟩
        have HS1 := Lib.hid (HS.out.step hblk hI1 hg1)
        clear hI1 hg1 HC
        go_wp2
        go_end0
        exact ⟨rfl, HS1.out.inv, HS1.out.fr, HS1.out.size⟩
      · have hl0z : ¬ ((l : Int) = 0) := by omega
        have hl0b : ((l : Int) == 0) = false := by simpa using hl0
        go_upto_if 35 with (fail)
        go_cut [3] from 19 to 129 (fun s3 wc => ∃ l' : Nat, s3 = .int .i64 l' ∧ l' ≤ 100 ∧ Hid (St Inv blk w wc #[.func (.func g) #[] lb, .func (.func sf) #[] sb]))
        case first =>
          cases wb with
          | false =>
            have HC := Lib.hid (breakPatterns_calls HK.out wr HS.out.inv x y (by omega) (by omega) h20)
            go_wp2_with fail
            refine HC.out.mono ?_
            rintro e w1 ⟨rfl, hI1, hg1⟩
            have HS1 := Lib.hid (HS.out.step hblk hI1 hg1)
            clear hI1 hg1 HC
            go_wp2
            go_meet
            case rel => exact ⟨l - 1, by congr 1; omega, by omega, HS1⟩
          | true =>
            go_wp2_with fail
            go_meet
            case rel => exact ⟨l, rfl, hl1, HS⟩
        case rest =>
          clear HS c0 c1 hl0 hl0z hl0b hl1
          obtain ⟨l', rfl, hl1, HS⟩ := hcut
          have c0 := HS.out.c0
          have c1 := HS.out.c1
          have HC := Lib.hid (choosePivot_calls HK.out wc HS.out.inv x y (by omega) (by omega) (by omega))
          go_upto_if 50 with ((with_reducible refine Calls.mono HC.out ?_); rintro e w2 ⟨p, hint, ⟨hp1, hp2⟩, rfl, hI2, hf2, hs2⟩; have HS2 := Lib.hid (HS.out.stepF hblk hI2 hf2 hs2); clear hI2 hf2 hs2)
          clear HC HS c0 c1
          have c0 := HS2.out.c0
          have c1 := HS2.out.c1
          go_cut [11, 12] from 19 to 129 (fun s11 s12 wc => ∃ (p' : Nat) (h' : Int), s11 = .int .i64 p' ∧ s12 = .int .i64 h' ∧ x ≤ p' ∧ p' < y ∧ Hid (St Inv blk w wc #[.func (.func g) #[] lb, .func (.func sf) #[] sb]))
          case first =>
            by_cases hh : hint = 2
            · subst hh
              have HC := Lib.hid (reverseRange_calls HK.out w2 HS2.out.inv x y hxy (by omega))
              go_wp2_with fail
              refine HC.out.mono ?_
              rintro e w3 ⟨rfl, hI3, hg3⟩
              have HS3 := Lib.hid (HS2.out.step hblk hI3 hg3)
              clear hI3 hg3 HC
              go_wp2
              go_meet
              case rel => exact ⟨(y - 1) - (p - x), 1, by congr 1; omega, rfl, by omega, by omega, HS3⟩
            · have hhb : (hint == 2) = false := by simpa using hh
              go_wp2_with fail
              go_meet
              case rel => exact ⟨p, hint, rfl, rfl, hp1, hp2, HS2⟩
          case rest =>
            clear HS2 c0 c1 hp1 hp2
            obtain ⟨p', h', rfl, rfl, hp1, hp2, HS⟩ := hcut
            go_upto_region 16 with (fail)
            go_cut [12, 68] from 19 to 129 (fun s12 s68 wx => ∃ q : Bool, s12 = .int .i64 h' ∧ s68 = .bool q ∧ wx = wc)
            case first =>
              cases wb <;> cases wq <;> by_cases hh : h' = 1
              all_goals
                first
                  | subst hh
                  | (have hhb : (h' == 1) = false := by simpa using hh)
                go_wp2_with fail
                go_meet
                case rel => exact ⟨_, rfl, rfl, rfl⟩
            case rest =>
              obtain ⟨q, rfl, rfl, rfl⟩ := hcut
              have c0 := HS.out.c0
              have c1 := HS.out.c1
              go_upto_if 68 with (fail)
              go_cut [] from 19 to 129 (fun wx => Hid (St Inv blk w wx #[.func (.func g) #[] lb, .func (.func sf) #[] sb]))
              case first =>
                cases q with
                | false =>
                  go_wp2_with fail
                  go_meet
                  case rel => exact HS
                | true =>
                  have HC := Lib.hid (partialInsertionSort_calls HK.out _ HS.out.inv x y (by omega) (by omega) (by omega))
                  go_wp2_with fail
                  refine HC.out.mono ?_
                  rintro e w4 ⟨q2, rfl, hI4, hg4⟩
                  have HS4 := Lib.hid (HS.out.step hblk hI4 hg4)
                  clear hI4 hg4 HC
                  cases q2 with
                  | true =>
                    go_wp2
                    go_end0
                    exact ⟨rfl, HS4.out.inv, HS4.out.fr, HS4.out.size⟩
                  | false =>
                    go_wp2
                    go_meet
                    case rel => exact HS4
              case rest =>
                clear HS c0 c1
                have HS := hcut
                clear hcut
                have c0 := HS.out.c0
                have c1 := HS.out.c1
                go_upto_region 18 with (fail)
                go_cut [83] from 19 to 129 (fun s83 wx => ∃ q : Bool, s83 = .bool q ∧ Hid (q = true → 0 < x) ∧ Hid (St Inv blk w wx #[.func (.func g) #[] lb, .func (.func sf) #[] sb]))
                case first =>
                  rcases Nat.eq_zero_or_pos x with ha0 | ha0
                  · have ha0z : decide ((x : Int) > 0) = false := decide_eq_false (by omega)
                    go_wp2_with fail
                    go_meet
                    case rel => exact ⟨false, rfl, Lib.hid (by simp), HS⟩
                  · have ha0z : (x : Int) > 0 := by omega
                    have hl := HK.out.less _ (x - 1) p' HS.out.inv (by omega) (by omega)
                    rw [show ((x - 1 : Nat) : Int) = (x : Int) - 1 by omega] at hl
                    have HL := Lib.hid hl
                    clear hl
                    go_wp2_with fail
                    go_at_fn g
                    refine HL.out.mono ?_
                    rintro e w5 ⟨bv, rfl, hI5, hg5⟩
                    have HS5 := Lib.hid (HS.out.step hblk hI5 hg5)
                    have HA := Lib.hid ha0
                    clear hI5 hg5 HL
                    cases bv
                    all_goals
                      go_wp2_with fail
                      go_meet
                      case rel => exact ⟨_, rfl, Lib.hid (fun _ => HA.out), HS5⟩
                case rest =>
                  clear HS c0 c1
                  obtain ⟨q, rfl, HQ, HS⟩ := hcut
                  have c0 := HS.out.c0
                  have c1 := HS.out.c1
                  cases q with
                  | true =>
                    have hx0 := HQ.out rfl
                    have HC := Lib.hid (partitionEqual_calls HK.out _ HS.out.inv x y p' (by omega) (by omega) (by omega))
                    go_wp2_with fail
                    refine HC.out.mono ?_
                    rintro e w7 ⟨mid, hm1, hm2, rfl, hI7, hg7⟩
                    have HS7 := Lib.hid (HS.out.step hblk hI7 hg7)
                    clear hI7 hg7 HC
                    go_wp2_with fail
                    go_roundg (y - mid)
                    case measure => have := HKK.out; omega
                    case rel => exact ⟨mid, y, l', wb, wq, rfl, rfl, rfl, rfl, rfl, rfl, by omega, by omega, hyb, hl1, HS7⟩
                  | false =>
                    have HC := Lib.hid (partition_calls HK.out _ HS.out.inv x y p' (by omega) (by omega) (by omega))
                    go_upto_if 109 with ((with_reducible refine Calls.mono HC.out ?_); rintro e w7 ⟨mid, ap, hm1, hm2, rfl, hI7, hg7⟩; have HS7 := Lib.hid (HS.out.step hblk hI7 hg7); clear hI7 hg7)
                    clear HC HS c0 c1
                    have c0 := HS7.out.c0
                    have c1 := HS7.out.c1
                    by_cases h4 : mid - x < y - mid
                    · have h4z : (mid : Int) - (x : Int) < (y : Int) - (mid : Int) := by omega
                      have HC := Lib.hid (HIH.out (mid - x) (by omega) w7 HS7.out.inv x mid l' (Nat.le_refl _) (by omega) (by omega) hl1)
                      go_wp2_with fail
                      refine HC.out.mono ?_
                      rintro e w8 ⟨rfl, hI8, hf8, hs8⟩
                      have HS8 := Lib.hid (HS7.out.stepF hblk hI8 hf8 hs8)
                      clear hI8 hf8 hs8 HC
                      go_wp2_with fail
                      go_roundg (y - (mid + 1))
                      case measure => have := HKK.out; omega
                      case rel => exact ⟨mid + 1, y, l', _, ap, rfl, by go_num, rfl, rfl, rfl, rfl, by omega, by omega, hyb, hl1, HS8⟩
                    · have h4z : ¬ ((mid : Int) - (x : Int) < (y : Int) - (mid : Int)) := by omega
                      have hc := HIH.out (y - (mid + 1)) (by omega) w7 HS7.out.inv (mid + 1) y l' (Nat.le_refl _) (by omega) (by omega) hl1
                      rw [show ((mid + 1 : Nat) : Int) = (mid : Int) + 1 by omega] at hc
                      have HC := Lib.hid hc
                      clear hc
                      go_wp2_with fail
                      refine HC.out.mono ?_
                      rintro e w8 ⟨rfl, hI8, hf8, hs8⟩
                      have HS8 := Lib.hid (HS7.out.stepF hblk hI8 hf8 hs8)
                      clear hI8 hf8 hs8 HC
                      go_wp2_with fail
                      go_roundg (mid - x)
                      case measure => have := HKK.out; omega
                      case rel => exact ⟨x, mid, l', _, ap, rfl, rfl, rfl, rfl, rfl, rfl, by omega, by omega, by omega, hl1, HS8⟩
end
end Go.Proofs.Ytenneobgjalfhaa.So
