/- listAlgorithmsByKind at the three kinds of the registry; no condition. Printed by gen_byk.py. -/
import Derived.Test.YtenneobgjalfhaaNmByK
import Derived.Deep.LoopGhost
import Derived.Outline
set_option linter.unusedVariables false
set_option linter.unusedSimpArgs false
namespace Go.Proofs.Ytenneobgjalfhaa.So
open Go.RowKit Go.Proofs.Ytenneobgjalfhaa.K Go.Proofs.Ytenneobgjalfhaa.Nm Go.Lib
theorem infoKA : (Try.prog.info? 66).map (fun i => (i.zero, i.size, i.bytes)) = some (some .nilIface, 1, 16) := by kernel_rfl
theorem mkKA (W : World) : Sem.run Try.prog (Instr.makeSlice 76 (.int .i64 0) (.int .i64 8)) W = .ok (.slice (some ⟨W.heap.size, 0, none⟩) 0 8) (W.alloc (.cells (Array.replicate 8 .nilIface) 66)) := by kernel_rfl
end Go.Proofs.Ytenneobgjalfhaa.So
namespace Go.Proofs.Ytenneobgjalfhaa.Nm
open Go.RowKit Go.Proofs.Ytenneobgjalfhaa.K Go.Lib
theorem own_map_ne {w : World} {base : Nat} {e : TypeId} {size n m : Nat} {v : Value} {xs : List Value} {es : Array MapEntry} {c : Nat} (h : w.ownsRow base e size v n xs) (hm : w.heap[m]? = some (.map es c)) : some m ≠ v.ownBlock := by
  rcases h.2 with ⟨rfl, _⟩ | ⟨g', cap, cur, rfl, _, hh, _⟩
  · simp [Value.ownBlock]
  · intro he
    have : m = g' := by simpa [Value.ownBlock] using he
    subst this
    rw [hh] at hm
    cases hm
theorem own_iter_ne {w : World} {base : Nat} {e : TypeId} {size n r : Nat} {v : Value} {xs : List Value} {m : Option Nat} {s c : Nat} {seen : Array Nat} (h : w.ownsRow base e size v n xs) (hm : w.heap[r]? = some (.mapIter m s seen c)) : some r ≠ v.ownBlock := by
  rcases h.2 with ⟨rfl, _⟩ | ⟨g', cap, cur, rfl, _, hh, _⟩
  · simp [Value.ownBlock]
  · intro he
    have : r = g' := by simpa [Value.ownBlock] using he
    subst this
    rw [hh] at hm
    cases hm
theorem RangL.own_ne {W : World} {m r : Nat} {L ds : List (ByteArray × Value)} (hr : RangL W m r L ds) {base : Nat} {e : TypeId} {size n : Nat} {v : Value} {xs : List Value} (h : W.ownsRow base e size v n xs) : some m ≠ v.ownBlock ∧ some r ≠ v.ownBlock := by
  obtain ⟨_, _, _, _, _, a1, _, _, a4, _⟩ := hr
  exact ⟨own_map_ne h a1, own_iter_ne h a4⟩
theorem RangL.blk_ne {W : World} {m r : Nat} {L ds : List (ByteArray × Value)} (hr : RangL W m r L ds) {g : Nat} {T : TypeId} {cs : Array Value} (h : Blk W g T cs) : g ≠ m ∧ g ≠ r := by
  obtain ⟨_, _, _, _, _, a1, _, _, a4, _⟩ := hr
  unfold Blk at h
  refine ⟨?_, ?_⟩
  · rintro rfl
    rw [h] at a1
    cases a1
  · rintro rfl
    rw [h] at a4
    cases a4
end Go.Proofs.Ytenneobgjalfhaa.Nm
namespace Go.Proofs.Ytenneobgjalfhaa.So
open Go.RowKit Go.Proofs.Ytenneobgjalfhaa.K Go.Proofs.Ytenneobgjalfhaa.Nm Go.Lib
/-- What holds at a round's head. -/
structure RdSignature (w wr : World) (m r vc : Nat) (ds : List (ByteArray × Value)) (xs : List (ByteArray × Bool × Bool)) (v : Value) : Prop where
  rg : RangL wr m r regTab ds
  low : Below w.heap.size w wr
  cap : Blk wr vc 76 #[v]
  own : wr.ownsRow w.heap.size 66 1 v xs.length (xs.map vSignatureAlgorithm)
  got : xs.map entSI = ds.filter selSignature
  vlow : w.heap.size ≤ vc
  mlow : w.heap.size ≤ m
  rlow : w.heap.size ≤ r
  few : xs.length + togo regTab ds ≤ 41
theorem RdSignature.skip {w wr w5 : World} {m r vc : Nat} {ds : List (ByteArray × Value)} {xs : List (ByteArray × Bool × Bool)} {v : Value} {q : ByteArray × Value} (h : RdSignature w wr m r vc ds xs v) (hR : RangL w5 m r regTab (ds ++ [q])) (hg : wr.grownBy w5 (some r)) (hq : q ∈ regTab) (hf : ∀ p ∈ ds, p.1 ≠ q.1) (hs : selSignature q = false) : RdSignature w w5 m r vc (ds ++ [q]) xs v where
  rg := hR
  low := h.low.trans (below_of_grown hg h.rlow h.low.size)
  cap := h.cap.grown hg (fun e => (h.rg.blk_ne h.cap).2 (by injection e))
  own := h.own.kept hg (.inr (Ne.symm (h.rg.own_ne h.own).2))
  got := by rw [List.filter_append, h.got]; simp [List.filter_cons, hs]
  vlow := h.vlow
  mlow := h.mlow
  rlow := h.rlow
  few := by have := h.few; have := togo_less hq hf; omega
theorem RdSignature.alloc {w wr : World} {m r vc : Nat} {ds : List (ByteArray × Value)} {xs : List (ByteArray × Bool × Bool)} {v : Value} (h : RdSignature w wr m r vc ds xs v) (ob : Obj) : RdSignature w (wr.alloc ob) m r vc ds xs v where
  rg := h.rg.grown (World.grownBy_alloc wr ob none) (by simp) (by simp)
  low := below_alloc' h.low ob
  cap := h.cap.alloc ob
  own := h.own.alloc ob
  got := h.got
  vlow := h.vlow
  mlow := h.mlow
  rlow := h.rlow
  few := h.few
theorem RdSignature.took {w wr w5 w6 : World} {m r vc : Nat} {ds : List (ByteArray × Value)} {xs : List (ByteArray × Bool × Bool)} {v v' : Value} {p : ByteArray × Bool × Bool} (h : RdSignature w wr m r vc ds xs v) (hR : RangL w5 m r regTab (ds ++ [entSI p])) (hg : wr.grownBy w5 (some r)) (hq : entSI p ∈ regTab) (hf : ∀ q ∈ ds, q.1 ≠ (entSI p).1) (hs : selSignature (entSI p) = true)
    (o1 o2 : Obj) (hown : w6.ownsRow w.heap.size 66 1 v' (xs.length + 1) (xs.map vSignatureAlgorithm ++ [vSignatureAlgorithm p])) (hg6 : ((w5.alloc o1).alloc o2).grownBy w6 v.ownBlock) : Blk w6 vc 76 #[v] ∧ RdSignature w (w6.setCell ⟨vc, 0, none⟩ v') m r vc (ds ++ [entSI p]) (xs ++ [p]) v' := by
  have hc5 := h.cap.grown hg (fun e => (h.rg.blk_ne h.cap).2 (by injection e))
  have ho5 := h.own.kept hg (.inr (Ne.symm (h.rg.own_ne h.own).2))
  have hb5 := h.low.trans (below_of_grown hg h.rlow h.low.size)
  have hc7 := (hc5.alloc o1).alloc o2
  have ho7 := (ho5.alloc o1).alloc o2
  have hR7 := (hR.grown (World.grownBy_alloc w5 o1 none) (by simp) (by simp)).grown (World.grownBy_alloc _ o2 none) (by simp) (by simp)
  have hb7 := below_alloc' (below_alloc' hb5 o1) o2
  have hc6 := hc7.grown hg6 (own_blk_ne ho7 hc7 (by decide))
  have hR6 := hR7.grown hg6 (hR7.own_ne ho7).1 (hR7.own_ne ho7).2
  have hb6 : Below w.heap.size w w6 := ⟨hg6.os.trans hb7.os, hg6.tape.trans hb7.tape, hg6.output.trans hb7.output, Nat.le_trans hb7.size hg6.size, fun k hk => (hg6.block k (Nat.lt_of_lt_of_le hk hb7.size) (fun e => by have := own_block_ge ho7 k e.symm; omega)).trans (hb7.block k hk)⟩
  have hsg := setCell_grown w6 ⟨vc, 0, none⟩ v'
  refine ⟨hc6, ⟨hR6.grown hsg (fun e => (hR6.blk_ne hc6).1 (by injection e with e; exact e.symm)) (fun e => (hR6.blk_ne hc6).2 (by injection e with e; exact e.symm)), hb6.setCell h.vlow v', hc6.set_ 0 v', ?_, ?_, h.vlow, h.mlow, h.rlow, ?_⟩⟩
  · have := own_setCell hown hc6 (by decide) 0 v'
    simpa [List.map_append] using this
  · rw [List.map_append, List.filter_append, h.got]; simp [List.filter_cons, hs]
  · have := h.few; have := togo_less hq hf; simp; omega
theorem RdSignature.all {w wr : World} {m r vc : Nat} {ds : List (ByteArray × Value)} {xs : List (ByteArray × Bool × Bool)} {v : Value} (h : RdSignature w wr m r vc ds xs v) (ha : ∀ p ∈ regTab, p ∈ ds) : xs.length = 16 ∧ ∀ p, p ∈ xs ↔ p ∈ tabSignature := by
  have hp : ds.Perm regTab := all_perm nodupReg h.rg.sub.2 h.rg.sub.1 ha
  have hp2 := hp.filter selSignature
  rw [← h.got, filterSignature] at hp2
  have hinj : ∀ p q : ByteArray × Bool × Bool, entSI p = entSI q → p = q := by
    rintro ⟨a, b, c⟩ ⟨d, e, f⟩ hpq
    simp [entSI, ent] at hpq
    simp [hpq]
  refine ⟨show xs.length = tabSignature.length by simpa using hp2.length_eq, fun p => ⟨fun hm => ?_, fun hm => ?_⟩⟩
  · obtain ⟨q, hq, e⟩ := List.mem_map.1 (hp2.mem_iff.1 (List.mem_map_of_mem (f := entSI) hm))
    rw [← hinj _ _ e]; exact hq
  · obtain ⟨q, hq, e⟩ := List.mem_map.1 (hp2.mem_iff.2 (List.mem_map_of_mem (f := entSI) hm))
    rw [← hinj _ _ e]; exact hq
set_option maxRecDepth 100000 in
set_option maxHeartbeats 4000000 in
theorem byKindSignature_calls (w : World) : Calls Try.prog 42 #[.int .u8 1] w (LPost (fun p => [vSignatureAlgorithm p]) 66 tabSignature w) := by
  obtain ⟨i0, hi, hz0, hz1, hz2⟩ := info_parts infoKA
  have HI := Lib.hid (And.intro hi (And.intro hz0 (And.intro hz1 hz2)))
  have hmk := mkKA w
  obtain ⟨W1, hW1⟩ : ∃ W1, W1 = w.alloc (.cells (Array.replicate 8 .nilIface) 66) := ⟨_, rfl⟩
  have hs1 : W1.heap.size = w.heap.size + 1 := by rw [hW1]; simp
  have HO1 := Lib.hid (show W1.ownsRow w.heap.size 66 1 (.slice (some ⟨w.heap.size, 0, none⟩) 0 8) 0 [] from ⟨by simp, .inr ⟨w.heap.size, 8, _, rfl, Nat.le_refl _, by rw [hW1]; exact heap_alloc_new w _, by decide, by unfold maxLen; decide, by simp, by simp⟩⟩)
  have HD1 := Lib.hid (show Below w.heap.size w W1 by rw [hW1]; exact below_alloc' (Below.refl w.heap.size w) _)
  rw [← hW1] at hmk
  have HR := Lib.hid (algRegistry_calls (W1.alloc (.cells #[.slice (some ⟨w.heap.size, 0, none⟩) 0 8] 76)))
  have HC1 := Lib.hid (Blk.new W1 76 #[.slice (some ⟨w.heap.size, 0, none⟩) 0 8])
  have HS1 := Lib.hid hs1
  clear hW1 hi hz0 hz1 hz2 hs1
  go_enter Try.func42, Try.ntmps42
  go_wp2_with fail
  refine HR.out.mono ?_
  rintro e w3 ⟨m, rfl, hmlow, hB3, hM⟩
  obtain ⟨w4, hrng, hR4, hg4, hs4⟩ := run_range Try.underlying83 w3 m regTab hM
  have HN : Hid (W1.heap.size ≤ w3.heap.size) := Lib.hid (Nat.le_trans (by simp) hB3.size)
  have hb13 : Below w.heap.size w w3 := below_then (below_alloc' HD1.out _) hB3
  have hc3 := HC1.out.below hB3 (by simp)
  have ho3 : w3.ownsRow w.heap.size 66 1 (.slice (some ⟨w.heap.size, 0, none⟩) 0 8) 0 [] := own_below (World.ownsRow.alloc HO1.out _) hB3
  have HRD := Lib.hid (show RdSignature w w4 m w3.heap.size W1.heap.size [] [] (.slice (some ⟨w.heap.size, 0, none⟩) 0 8) from
    ⟨hR4, hb13.trans (below_of_grown (g := w4.heap.size) ⟨hg4.os, hg4.tape, hg4.output, hg4.size, fun k hk _ => hg4.block k hk (by simp)⟩ (by have := hb13.size; omega) hb13.size), hc3.grown hg4 (by simp), ho3.kept hg4 (by simp [Value.ownBlock]), rfl, by have := HS1.out; omega, by have := HS1.out; simp at hmlow; omega, hb13.size, by decide⟩)
  clear hmk HO1 HD1 HC1 HR hM hB3 hR4 hg4 hb13 hc3 ho3 hmlow hs4
  go_wp2_with fail
  go_loopg [] (togo regTab []) (fun k wr => ∃ ds xs v, k = togo regTab ds ∧ Hid (RdSignature w wr m w3.heap.size W1.heap.size ds xs v))
  case atStart => exact ⟨[], [], _, rfl, HRD⟩
  case round =>
    clear HRD
    obtain ⟨ds, xs, v, hk, HR⟩ := hrel
    have HKK := Lib.hid hk
    clear hk
    obtain ⟨Av, cc, rfl, _, _⟩ := own_form HR.out.own
    rcases HR.out.rg.next (P := Try.prog) 0 nodupReg with ⟨hall, hrun⟩ | ⟨q, hq, hf, w5, hrun, hR5, hg5, hent⟩
    · obtain ⟨hlen, hmem⟩ := HR.out.all hall
      obtain ⟨g, c, cur, hv, hgl, hbg, hn1, _, _, htk⟩ : ∃ g cap cur, Value.slice Av xs.length cc = .slice (some ⟨g, 0, none⟩) xs.length cap ∧ w.heap.size ≤ g ∧ Blk wr g 66 cur ∧ xs.length ≤ cap ∧ cap ≤ maxLen ∧ cur.size = cap * 1 ∧ cur.toList.take (xs.length * 1) = xs.map vSignatureAlgorithm := by
        rcases HR.out.own.2 with ⟨_, h0⟩ | ⟨g, cap, cur, h1, h2, h3, h4, h5, h6, h7⟩
        · exfalso; omega
        · exact ⟨g, cap, cur, h1, h2, h3, h4, h5, h6, h7⟩
      have hcur : cur = (xs.flatMap (fun p => [vSignatureAlgorithm p]) ++ cur.toList.drop xs.length).toArray := by
        apply Array.toList_inj.1
        rw [flat1, ← htk, Nat.mul_one, List.take_append_drop]
      have hcap := HR.out.cap
      rw [hv] at hcap
      have hne : W1.heap.size ≠ g := by
        rintro rfl
        unfold Blk at hcap hbg
        rw [hcap] at hbg
        injection hbg with hbg
        injection hbg with _ ht
        exact absurd ht (by decide)
      obtain ⟨i, ie, hsl, hsz⟩ := sl_of (t := 76) (e := 66) (sz := 1) (by' := 16) (ke := 20) (n := xs.length) (by kernel_rfl) (by kernel_rfl) (by kernel_rfl) (fun w => by kernel_rfl) (by decide) (by decide) (by omega)
      have HC := Lib.hid (Slice_calls hsl (some ⟨g, 0, none⟩) c (keepsSignatureAlgorithm (L0 := tabSignature) (rest := cur.toList.drop xs.length) hcap hne hbg.lt (by omega) hsl.hie hsz) (by omega) (by omega) wr ⟨World.grownBy.refl _ _, xs, rfl, hmem, by rw [← hcur]; exact hbg⟩)
      have cv : wr.cell? ⟨W1.heap.size, 0, none⟩ = some (.slice (some ⟨g, 0, none⟩) xs.length c) := by rw [hcap.cell]; rfl
      have HF := Lib.hid (And.intro hcap (And.intro hne (And.intro hgl hlen)))
      clear hall hlen hmem hv hgl hbg hn1 htk hcur hcap hne hsl hsz
      go_wp2_with fail
      refine HC.out.mono ?_
      rintro e w9 ⟨rfl, hI⟩
      have HI9 := Lib.hid hI
      have cv9 : w9.cell? ⟨W1.heap.size, 0, none⟩ = some (.slice (some ⟨g, 0, none⟩) xs.length c) := by rw [(HF.out.1.grown hI.gr (by intro e; injection e with e; exact HF.out.2.1 e)).cell]; rfl
      clear hI HC cv hrun
      go_wp2
      go_ret
      obtain ⟨ys, hy, hm, hb⟩ := HI9.out.ex
      have hgl := HF.out.2.2.1
      have hlen := HF.out.2.2.2
      exact ⟨g, xs.length, c, ys, _, rfl, hy, hlen, hm, HR.out.low.trans (below_of_grown HI9.out.gr hgl HR.out.low.size), hgl, hb⟩
    · rcases reg_cases hq with ⟨p, hp, rfl⟩ | ⟨p, hp, rfl⟩ | ⟨p, hp, rfl⟩
      · have hs := selSignature_ContentEncryption p hp
        have HR6 := Lib.hid ((HR.out.skip hR5 hg5 hq hf hs).alloc (.cells #[.int .u8 3, .iface 40 (two p.1 p.2), .bool true] 81))
        have HTL := Lib.hid (togo_less hq hf)
        simp only [entCE, ent] at hrun hent
        clear hq hf hR5 hg5 hs
        go_wp2_with fail
        go_roundg (togo regTab (ds ++ [entCE p]))
        case measure => have := HTL.out; have := HKK.out; omega
        case rel => exact ⟨_, _, _, rfl, HR6⟩
      · have hs := selSignature_KeyEncryption p hp
        have HR6 := Lib.hid ((HR.out.skip hR5 hg5 hq hf hs).alloc (.cells #[.int .u8 2, .iface 36 (three p.1 p.2.1 p.2.2), .bool true] 81))
        have HTL := Lib.hid (togo_less hq hf)
        simp only [entKE, ent] at hrun hent
        clear hq hf hR5 hg5 hs
        go_wp2_with fail
        go_roundg (togo regTab (ds ++ [entKE p]))
        case measure => have := HTL.out; have := HKK.out; omega
        case rel => exact ⟨_, _, _, rfl, HR6⟩
      · have hs := selSignature_own p hp
        have c5 : (w5.alloc (.cells #[.int .u8 1, .iface 32 (three p.1 p.2.1 p.2.2), .bool true] 81)).cell? ⟨W1.heap.size, 0, none⟩ = some (.slice Av xs.length cc) := by rw [((HR.out.cap.grown hg5 (fun e => (HR.out.rg.blk_ne HR.out.cap).2 (by injection e))).alloc _).cell]; rfl
        have HO := Lib.hid (HR.out.own.kept hg5 (.inr (Ne.symm (HR.out.rg.own_ne HR.out.own).2)))
        have HB5 := Lib.hid (HR.out.low.trans (below_of_grown hg5 HR.out.rlow HR.out.low.size))
        have HTL := Lib.hid (togo_less hq hf)
        have HALL := Lib.hid (And.intro hR5 (And.intro hg5 (And.intro hq (And.intro hf hs))))
        have hrd := reads_lit (w5.alloc (.cells #[.int .u8 1, .iface 32 (three p.1 p.2.1 p.2.2), .bool true] 81)) 1 1 [vSignatureAlgorithm p] #[vSignatureAlgorithm p] rfl rfl 66
        rw [show (w5.alloc (.cells #[.int .u8 1, .iface 32 (three p.1 p.2.1 p.2.2), .bool true] 81)).heap.size = w5.heap.size + 1 from by simp] at hrd
        have HRD := Lib.hid hrd
        have hfew := HR.out.few
        simp only [entSI, ent] at hrun hent
        clear hs hR5 hg5 hq hf hrd
        go_wp2_with (at_builtin; refine wpList_append_any _ rfl (.tmp 17) (.tmp 20) 76 rfl w.heap.size 66 i0 .nilIface 1 16 Try.underlying76 HI.out.1 HI.out.2.1 HI.out.2.2.1 HI.out.2.2.2 rfl (by decide) _ xs.length (xs.map vSignatureAlgorithm) rfl ((HO.out.alloc _).alloc _) (some ⟨w5.heap.size + 1, 0, none⟩) 1 1 [vSignatureAlgorithm p] rfl HRD.out (by intro u hu; simp at hu; subst hu; rfl) (by unfold maxLen; omega) (by omega) (below_alloc' (below_alloc' HB5.out _) _).size ?_; intro v' w6 hown hg6 hat; obtain ⟨Aw, cw, rfl, _, _⟩ := own_form hown; obtain ⟨hc6, hr6⟩ := HR.out.took HALL.out.1 HALL.out.2.1 HALL.out.2.2.1 HALL.out.2.2.2.1 HALL.out.2.2.2.2 _ _ hown hg6; have c6 : w6.cell? ⟨W1.heap.size, 0, none⟩ = some (.slice Av xs.length cc) := (hc6.cell 0).trans rfl; have f6 := hc6.frozen 0; have HR6 := Lib.hid hr6; clear hown hg6 hat hc6 hr6)
        go_wp2_with fail
        go_roundg (togo regTab (ds ++ [entSI p]))
        case measure => have := HTL.out; have := HKK.out; omega
        case rel => exact ⟨_, _, _, rfl, HR6⟩
/-- What holds at a round's head. -/
structure RdKeyEncryption (w wr : World) (m r vc : Nat) (ds : List (ByteArray × Value)) (xs : List (ByteArray × Bool × Bool)) (v : Value) : Prop where
  rg : RangL wr m r regTab ds
  low : Below w.heap.size w wr
  cap : Blk wr vc 76 #[v]
  own : wr.ownsRow w.heap.size 66 1 v xs.length (xs.map vKeyEncryptionAlgorithm)
  got : xs.map entKE = ds.filter selKeyEncryption
  vlow : w.heap.size ≤ vc
  mlow : w.heap.size ≤ m
  rlow : w.heap.size ≤ r
  few : xs.length + togo regTab ds ≤ 41
theorem RdKeyEncryption.skip {w wr w5 : World} {m r vc : Nat} {ds : List (ByteArray × Value)} {xs : List (ByteArray × Bool × Bool)} {v : Value} {q : ByteArray × Value} (h : RdKeyEncryption w wr m r vc ds xs v) (hR : RangL w5 m r regTab (ds ++ [q])) (hg : wr.grownBy w5 (some r)) (hq : q ∈ regTab) (hf : ∀ p ∈ ds, p.1 ≠ q.1) (hs : selKeyEncryption q = false) : RdKeyEncryption w w5 m r vc (ds ++ [q]) xs v where
  rg := hR
  low := h.low.trans (below_of_grown hg h.rlow h.low.size)
  cap := h.cap.grown hg (fun e => (h.rg.blk_ne h.cap).2 (by injection e))
  own := h.own.kept hg (.inr (Ne.symm (h.rg.own_ne h.own).2))
  got := by rw [List.filter_append, h.got]; simp [List.filter_cons, hs]
  vlow := h.vlow
  mlow := h.mlow
  rlow := h.rlow
  few := by have := h.few; have := togo_less hq hf; omega
theorem RdKeyEncryption.alloc {w wr : World} {m r vc : Nat} {ds : List (ByteArray × Value)} {xs : List (ByteArray × Bool × Bool)} {v : Value} (h : RdKeyEncryption w wr m r vc ds xs v) (ob : Obj) : RdKeyEncryption w (wr.alloc ob) m r vc ds xs v where
  rg := h.rg.grown (World.grownBy_alloc wr ob none) (by simp) (by simp)
  low := below_alloc' h.low ob
  cap := h.cap.alloc ob
  own := h.own.alloc ob
  got := h.got
  vlow := h.vlow
  mlow := h.mlow
  rlow := h.rlow
  few := h.few
theorem RdKeyEncryption.took {w wr w5 w6 : World} {m r vc : Nat} {ds : List (ByteArray × Value)} {xs : List (ByteArray × Bool × Bool)} {v v' : Value} {p : ByteArray × Bool × Bool} (h : RdKeyEncryption w wr m r vc ds xs v) (hR : RangL w5 m r regTab (ds ++ [entKE p])) (hg : wr.grownBy w5 (some r)) (hq : entKE p ∈ regTab) (hf : ∀ q ∈ ds, q.1 ≠ (entKE p).1) (hs : selKeyEncryption (entKE p) = true)
    (o1 o2 : Obj) (hown : w6.ownsRow w.heap.size 66 1 v' (xs.length + 1) (xs.map vKeyEncryptionAlgorithm ++ [vKeyEncryptionAlgorithm p])) (hg6 : ((w5.alloc o1).alloc o2).grownBy w6 v.ownBlock) : Blk w6 vc 76 #[v] ∧ RdKeyEncryption w (w6.setCell ⟨vc, 0, none⟩ v') m r vc (ds ++ [entKE p]) (xs ++ [p]) v' := by
  have hc5 := h.cap.grown hg (fun e => (h.rg.blk_ne h.cap).2 (by injection e))
  have ho5 := h.own.kept hg (.inr (Ne.symm (h.rg.own_ne h.own).2))
  have hb5 := h.low.trans (below_of_grown hg h.rlow h.low.size)
  have hc7 := (hc5.alloc o1).alloc o2
  have ho7 := (ho5.alloc o1).alloc o2
  have hR7 := (hR.grown (World.grownBy_alloc w5 o1 none) (by simp) (by simp)).grown (World.grownBy_alloc _ o2 none) (by simp) (by simp)
  have hb7 := below_alloc' (below_alloc' hb5 o1) o2
  have hc6 := hc7.grown hg6 (own_blk_ne ho7 hc7 (by decide))
  have hR6 := hR7.grown hg6 (hR7.own_ne ho7).1 (hR7.own_ne ho7).2
  have hb6 : Below w.heap.size w w6 := ⟨hg6.os.trans hb7.os, hg6.tape.trans hb7.tape, hg6.output.trans hb7.output, Nat.le_trans hb7.size hg6.size, fun k hk => (hg6.block k (Nat.lt_of_lt_of_le hk hb7.size) (fun e => by have := own_block_ge ho7 k e.symm; omega)).trans (hb7.block k hk)⟩
  have hsg := setCell_grown w6 ⟨vc, 0, none⟩ v'
  refine ⟨hc6, ⟨hR6.grown hsg (fun e => (hR6.blk_ne hc6).1 (by injection e with e; exact e.symm)) (fun e => (hR6.blk_ne hc6).2 (by injection e with e; exact e.symm)), hb6.setCell h.vlow v', hc6.set_ 0 v', ?_, ?_, h.vlow, h.mlow, h.rlow, ?_⟩⟩
  · have := own_setCell hown hc6 (by decide) 0 v'
    simpa [List.map_append] using this
  · rw [List.map_append, List.filter_append, h.got]; simp [List.filter_cons, hs]
  · have := h.few; have := togo_less hq hf; simp; omega
theorem RdKeyEncryption.all {w wr : World} {m r vc : Nat} {ds : List (ByteArray × Value)} {xs : List (ByteArray × Bool × Bool)} {v : Value} (h : RdKeyEncryption w wr m r vc ds xs v) (ha : ∀ p ∈ regTab, p ∈ ds) : xs.length = 19 ∧ ∀ p, p ∈ xs ↔ p ∈ tabKeyEncryption := by
  have hp : ds.Perm regTab := all_perm nodupReg h.rg.sub.2 h.rg.sub.1 ha
  have hp2 := hp.filter selKeyEncryption
  rw [← h.got, filterKeyEncryption] at hp2
  have hinj : ∀ p q : ByteArray × Bool × Bool, entKE p = entKE q → p = q := by
    rintro ⟨a, b, c⟩ ⟨d, e, f⟩ hpq
    simp [entKE, ent] at hpq
    simp [hpq]
  refine ⟨show xs.length = tabKeyEncryption.length by simpa using hp2.length_eq, fun p => ⟨fun hm => ?_, fun hm => ?_⟩⟩
  · obtain ⟨q, hq, e⟩ := List.mem_map.1 (hp2.mem_iff.1 (List.mem_map_of_mem (f := entKE) hm))
    rw [← hinj _ _ e]; exact hq
  · obtain ⟨q, hq, e⟩ := List.mem_map.1 (hp2.mem_iff.2 (List.mem_map_of_mem (f := entKE) hm))
    rw [← hinj _ _ e]; exact hq
set_option maxRecDepth 100000 in
set_option maxHeartbeats 4000000 in
theorem byKindKeyEncryption_calls (w : World) : Calls Try.prog 42 #[.int .u8 2] w (LPost (fun p => [vKeyEncryptionAlgorithm p]) 66 tabKeyEncryption w) := by
  obtain ⟨i0, hi, hz0, hz1, hz2⟩ := info_parts infoKA
  have HI := Lib.hid (And.intro hi (And.intro hz0 (And.intro hz1 hz2)))
  have hmk := mkKA w
  obtain ⟨W1, hW1⟩ : ∃ W1, W1 = w.alloc (.cells (Array.replicate 8 .nilIface) 66) := ⟨_, rfl⟩
  have hs1 : W1.heap.size = w.heap.size + 1 := by rw [hW1]; simp
  have HO1 := Lib.hid (show W1.ownsRow w.heap.size 66 1 (.slice (some ⟨w.heap.size, 0, none⟩) 0 8) 0 [] from ⟨by simp, .inr ⟨w.heap.size, 8, _, rfl, Nat.le_refl _, by rw [hW1]; exact heap_alloc_new w _, by decide, by unfold maxLen; decide, by simp, by simp⟩⟩)
  have HD1 := Lib.hid (show Below w.heap.size w W1 by rw [hW1]; exact below_alloc' (Below.refl w.heap.size w) _)
  rw [← hW1] at hmk
  have HR := Lib.hid (algRegistry_calls (W1.alloc (.cells #[.slice (some ⟨w.heap.size, 0, none⟩) 0 8] 76)))
  have HC1 := Lib.hid (Blk.new W1 76 #[.slice (some ⟨w.heap.size, 0, none⟩) 0 8])
  have HS1 := Lib.hid hs1
  clear hW1 hi hz0 hz1 hz2 hs1
  go_enter Try.func42, Try.ntmps42
  go_wp2_with fail
  refine HR.out.mono ?_
  rintro e w3 ⟨m, rfl, hmlow, hB3, hM⟩
  obtain ⟨w4, hrng, hR4, hg4, hs4⟩ := run_range Try.underlying83 w3 m regTab hM
  have HN : Hid (W1.heap.size ≤ w3.heap.size) := Lib.hid (Nat.le_trans (by simp) hB3.size)
  have hb13 : Below w.heap.size w w3 := below_then (below_alloc' HD1.out _) hB3
  have hc3 := HC1.out.below hB3 (by simp)
  have ho3 : w3.ownsRow w.heap.size 66 1 (.slice (some ⟨w.heap.size, 0, none⟩) 0 8) 0 [] := own_below (World.ownsRow.alloc HO1.out _) hB3
  have HRD := Lib.hid (show RdKeyEncryption w w4 m w3.heap.size W1.heap.size [] [] (.slice (some ⟨w.heap.size, 0, none⟩) 0 8) from
    ⟨hR4, hb13.trans (below_of_grown (g := w4.heap.size) ⟨hg4.os, hg4.tape, hg4.output, hg4.size, fun k hk _ => hg4.block k hk (by simp)⟩ (by have := hb13.size; omega) hb13.size), hc3.grown hg4 (by simp), ho3.kept hg4 (by simp [Value.ownBlock]), rfl, by have := HS1.out; omega, by have := HS1.out; simp at hmlow; omega, hb13.size, by decide⟩)
  clear hmk HO1 HD1 HC1 HR hM hB3 hR4 hg4 hb13 hc3 ho3 hmlow hs4
  go_wp2_with fail
  go_loopg [] (togo regTab []) (fun k wr => ∃ ds xs v, k = togo regTab ds ∧ Hid (RdKeyEncryption w wr m w3.heap.size W1.heap.size ds xs v))
  case atStart => exact ⟨[], [], _, rfl, HRD⟩
  case round =>
    clear HRD
    obtain ⟨ds, xs, v, hk, HR⟩ := hrel
    have HKK := Lib.hid hk
    clear hk
    obtain ⟨Av, cc, rfl, _, _⟩ := own_form HR.out.own
    rcases HR.out.rg.next (P := Try.prog) 0 nodupReg with ⟨hall, hrun⟩ | ⟨q, hq, hf, w5, hrun, hR5, hg5, hent⟩
    · obtain ⟨hlen, hmem⟩ := HR.out.all hall
      obtain ⟨g, c, cur, hv, hgl, hbg, hn1, _, _, htk⟩ : ∃ g cap cur, Value.slice Av xs.length cc = .slice (some ⟨g, 0, none⟩) xs.length cap ∧ w.heap.size ≤ g ∧ Blk wr g 66 cur ∧ xs.length ≤ cap ∧ cap ≤ maxLen ∧ cur.size = cap * 1 ∧ cur.toList.take (xs.length * 1) = xs.map vKeyEncryptionAlgorithm := by
        rcases HR.out.own.2 with ⟨_, h0⟩ | ⟨g, cap, cur, h1, h2, h3, h4, h5, h6, h7⟩
        · exfalso; omega
        · exact ⟨g, cap, cur, h1, h2, h3, h4, h5, h6, h7⟩
      have hcur : cur = (xs.flatMap (fun p => [vKeyEncryptionAlgorithm p]) ++ cur.toList.drop xs.length).toArray := by
        apply Array.toList_inj.1
        rw [flat1, ← htk, Nat.mul_one, List.take_append_drop]
      have hcap := HR.out.cap
      rw [hv] at hcap
      have hne : W1.heap.size ≠ g := by
        rintro rfl
        unfold Blk at hcap hbg
        rw [hcap] at hbg
        injection hbg with hbg
        injection hbg with _ ht
        exact absurd ht (by decide)
      obtain ⟨i, ie, hsl, hsz⟩ := sl_of (t := 76) (e := 66) (sz := 1) (by' := 16) (ke := 20) (n := xs.length) (by kernel_rfl) (by kernel_rfl) (by kernel_rfl) (fun w => by kernel_rfl) (by decide) (by decide) (by omega)
      have HC := Lib.hid (Slice_calls hsl (some ⟨g, 0, none⟩) c (keepsKeyEncryptionAlgorithm (L0 := tabKeyEncryption) (rest := cur.toList.drop xs.length) hcap hne hbg.lt (by omega) hsl.hie hsz) (by omega) (by omega) wr ⟨World.grownBy.refl _ _, xs, rfl, hmem, by rw [← hcur]; exact hbg⟩)
      have cv : wr.cell? ⟨W1.heap.size, 0, none⟩ = some (.slice (some ⟨g, 0, none⟩) xs.length c) := by rw [hcap.cell]; rfl
      have HF := Lib.hid (And.intro hcap (And.intro hne (And.intro hgl hlen)))
      clear hall hlen hmem hv hgl hbg hn1 htk hcur hcap hne hsl hsz
      go_wp2_with fail
      refine HC.out.mono ?_
      rintro e w9 ⟨rfl, hI⟩
      have HI9 := Lib.hid hI
      have cv9 : w9.cell? ⟨W1.heap.size, 0, none⟩ = some (.slice (some ⟨g, 0, none⟩) xs.length c) := by rw [(HF.out.1.grown hI.gr (by intro e; injection e with e; exact HF.out.2.1 e)).cell]; rfl
      clear hI HC cv hrun
      go_wp2
      go_ret
      obtain ⟨ys, hy, hm, hb⟩ := HI9.out.ex
      have hgl := HF.out.2.2.1
      have hlen := HF.out.2.2.2
      exact ⟨g, xs.length, c, ys, _, rfl, hy, hlen, hm, HR.out.low.trans (below_of_grown HI9.out.gr hgl HR.out.low.size), hgl, hb⟩
    · rcases reg_cases hq with ⟨p, hp, rfl⟩ | ⟨p, hp, rfl⟩ | ⟨p, hp, rfl⟩
      · have hs := selKeyEncryption_ContentEncryption p hp
        have HR6 := Lib.hid ((HR.out.skip hR5 hg5 hq hf hs).alloc (.cells #[.int .u8 3, .iface 40 (two p.1 p.2), .bool true] 81))
        have HTL := Lib.hid (togo_less hq hf)
        simp only [entCE, ent] at hrun hent
        clear hq hf hR5 hg5 hs
        go_wp2_with fail
        go_roundg (togo regTab (ds ++ [entCE p]))
        case measure => have := HTL.out; have := HKK.out; omega
        case rel => exact ⟨_, _, _, rfl, HR6⟩
      · have hs := selKeyEncryption_own p hp
        have c5 : (w5.alloc (.cells #[.int .u8 2, .iface 36 (three p.1 p.2.1 p.2.2), .bool true] 81)).cell? ⟨W1.heap.size, 0, none⟩ = some (.slice Av xs.length cc) := by rw [((HR.out.cap.grown hg5 (fun e => (HR.out.rg.blk_ne HR.out.cap).2 (by injection e))).alloc _).cell]; rfl
        have HO := Lib.hid (HR.out.own.kept hg5 (.inr (Ne.symm (HR.out.rg.own_ne HR.out.own).2)))
        have HB5 := Lib.hid (HR.out.low.trans (below_of_grown hg5 HR.out.rlow HR.out.low.size))
        have HTL := Lib.hid (togo_less hq hf)
        have HALL := Lib.hid (And.intro hR5 (And.intro hg5 (And.intro hq (And.intro hf hs))))
        have hrd := reads_lit (w5.alloc (.cells #[.int .u8 2, .iface 36 (three p.1 p.2.1 p.2.2), .bool true] 81)) 1 1 [vKeyEncryptionAlgorithm p] #[vKeyEncryptionAlgorithm p] rfl rfl 66
        rw [show (w5.alloc (.cells #[.int .u8 2, .iface 36 (three p.1 p.2.1 p.2.2), .bool true] 81)).heap.size = w5.heap.size + 1 from by simp] at hrd
        have HRD := Lib.hid hrd
        have hfew := HR.out.few
        simp only [entKE, ent] at hrun hent
        clear hs hR5 hg5 hq hf hrd
        go_wp2_with (at_builtin; refine wpList_append_any _ rfl (.tmp 17) (.tmp 20) 76 rfl w.heap.size 66 i0 .nilIface 1 16 Try.underlying76 HI.out.1 HI.out.2.1 HI.out.2.2.1 HI.out.2.2.2 rfl (by decide) _ xs.length (xs.map vKeyEncryptionAlgorithm) rfl ((HO.out.alloc _).alloc _) (some ⟨w5.heap.size + 1, 0, none⟩) 1 1 [vKeyEncryptionAlgorithm p] rfl HRD.out (by intro u hu; simp at hu; subst hu; rfl) (by unfold maxLen; omega) (by omega) (below_alloc' (below_alloc' HB5.out _) _).size ?_; intro v' w6 hown hg6 hat; obtain ⟨Aw, cw, rfl, _, _⟩ := own_form hown; obtain ⟨hc6, hr6⟩ := HR.out.took HALL.out.1 HALL.out.2.1 HALL.out.2.2.1 HALL.out.2.2.2.1 HALL.out.2.2.2.2 _ _ hown hg6; have c6 : w6.cell? ⟨W1.heap.size, 0, none⟩ = some (.slice Av xs.length cc) := (hc6.cell 0).trans rfl; have f6 := hc6.frozen 0; have HR6 := Lib.hid hr6; clear hown hg6 hat hc6 hr6)
        go_wp2_with fail
        go_roundg (togo regTab (ds ++ [entKE p]))
        case measure => have := HTL.out; have := HKK.out; omega
        case rel => exact ⟨_, _, _, rfl, HR6⟩
      · have hs := selKeyEncryption_Signature p hp
        have HR6 := Lib.hid ((HR.out.skip hR5 hg5 hq hf hs).alloc (.cells #[.int .u8 1, .iface 32 (three p.1 p.2.1 p.2.2), .bool true] 81))
        have HTL := Lib.hid (togo_less hq hf)
        simp only [entSI, ent] at hrun hent
        clear hq hf hR5 hg5 hs
        go_wp2_with fail
        go_roundg (togo regTab (ds ++ [entSI p]))
        case measure => have := HTL.out; have := HKK.out; omega
        case rel => exact ⟨_, _, _, rfl, HR6⟩
/-- What holds at a round's head. -/
structure RdContentEncryption (w wr : World) (m r vc : Nat) (ds : List (ByteArray × Value)) (xs : List (ByteArray × Bool)) (v : Value) : Prop where
  rg : RangL wr m r regTab ds
  low : Below w.heap.size w wr
  cap : Blk wr vc 76 #[v]
  own : wr.ownsRow w.heap.size 66 1 v xs.length (xs.map vContentEncryptionAlgorithm)
  got : xs.map entCE = ds.filter selContentEncryption
  vlow : w.heap.size ≤ vc
  mlow : w.heap.size ≤ m
  rlow : w.heap.size ≤ r
  few : xs.length + togo regTab ds ≤ 41
theorem RdContentEncryption.skip {w wr w5 : World} {m r vc : Nat} {ds : List (ByteArray × Value)} {xs : List (ByteArray × Bool)} {v : Value} {q : ByteArray × Value} (h : RdContentEncryption w wr m r vc ds xs v) (hR : RangL w5 m r regTab (ds ++ [q])) (hg : wr.grownBy w5 (some r)) (hq : q ∈ regTab) (hf : ∀ p ∈ ds, p.1 ≠ q.1) (hs : selContentEncryption q = false) : RdContentEncryption w w5 m r vc (ds ++ [q]) xs v where
  rg := hR
  low := h.low.trans (below_of_grown hg h.rlow h.low.size)
  cap := h.cap.grown hg (fun e => (h.rg.blk_ne h.cap).2 (by injection e))
  own := h.own.kept hg (.inr (Ne.symm (h.rg.own_ne h.own).2))
  got := by rw [List.filter_append, h.got]; simp [List.filter_cons, hs]
  vlow := h.vlow
  mlow := h.mlow
  rlow := h.rlow
  few := by have := h.few; have := togo_less hq hf; omega
theorem RdContentEncryption.alloc {w wr : World} {m r vc : Nat} {ds : List (ByteArray × Value)} {xs : List (ByteArray × Bool)} {v : Value} (h : RdContentEncryption w wr m r vc ds xs v) (ob : Obj) : RdContentEncryption w (wr.alloc ob) m r vc ds xs v where
  rg := h.rg.grown (World.grownBy_alloc wr ob none) (by simp) (by simp)
  low := below_alloc' h.low ob
  cap := h.cap.alloc ob
  own := h.own.alloc ob
  got := h.got
  vlow := h.vlow
  mlow := h.mlow
  rlow := h.rlow
  few := h.few
theorem RdContentEncryption.took {w wr w5 w6 : World} {m r vc : Nat} {ds : List (ByteArray × Value)} {xs : List (ByteArray × Bool)} {v v' : Value} {p : ByteArray × Bool} (h : RdContentEncryption w wr m r vc ds xs v) (hR : RangL w5 m r regTab (ds ++ [entCE p])) (hg : wr.grownBy w5 (some r)) (hq : entCE p ∈ regTab) (hf : ∀ q ∈ ds, q.1 ≠ (entCE p).1) (hs : selContentEncryption (entCE p) = true)
    (o1 o2 : Obj) (hown : w6.ownsRow w.heap.size 66 1 v' (xs.length + 1) (xs.map vContentEncryptionAlgorithm ++ [vContentEncryptionAlgorithm p])) (hg6 : ((w5.alloc o1).alloc o2).grownBy w6 v.ownBlock) : Blk w6 vc 76 #[v] ∧ RdContentEncryption w (w6.setCell ⟨vc, 0, none⟩ v') m r vc (ds ++ [entCE p]) (xs ++ [p]) v' := by
  have hc5 := h.cap.grown hg (fun e => (h.rg.blk_ne h.cap).2 (by injection e))
  have ho5 := h.own.kept hg (.inr (Ne.symm (h.rg.own_ne h.own).2))
  have hb5 := h.low.trans (below_of_grown hg h.rlow h.low.size)
  have hc7 := (hc5.alloc o1).alloc o2
  have ho7 := (ho5.alloc o1).alloc o2
  have hR7 := (hR.grown (World.grownBy_alloc w5 o1 none) (by simp) (by simp)).grown (World.grownBy_alloc _ o2 none) (by simp) (by simp)
  have hb7 := below_alloc' (below_alloc' hb5 o1) o2
  have hc6 := hc7.grown hg6 (own_blk_ne ho7 hc7 (by decide))
  have hR6 := hR7.grown hg6 (hR7.own_ne ho7).1 (hR7.own_ne ho7).2
  have hb6 : Below w.heap.size w w6 := ⟨hg6.os.trans hb7.os, hg6.tape.trans hb7.tape, hg6.output.trans hb7.output, Nat.le_trans hb7.size hg6.size, fun k hk => (hg6.block k (Nat.lt_of_lt_of_le hk hb7.size) (fun e => by have := own_block_ge ho7 k e.symm; omega)).trans (hb7.block k hk)⟩
  have hsg := setCell_grown w6 ⟨vc, 0, none⟩ v'
  refine ⟨hc6, ⟨hR6.grown hsg (fun e => (hR6.blk_ne hc6).1 (by injection e with e; exact e.symm)) (fun e => (hR6.blk_ne hc6).2 (by injection e with e; exact e.symm)), hb6.setCell h.vlow v', hc6.set_ 0 v', ?_, ?_, h.vlow, h.mlow, h.rlow, ?_⟩⟩
  · have := own_setCell hown hc6 (by decide) 0 v'
    simpa [List.map_append] using this
  · rw [List.map_append, List.filter_append, h.got]; simp [List.filter_cons, hs]
  · have := h.few; have := togo_less hq hf; simp; omega
theorem RdContentEncryption.all {w wr : World} {m r vc : Nat} {ds : List (ByteArray × Value)} {xs : List (ByteArray × Bool)} {v : Value} (h : RdContentEncryption w wr m r vc ds xs v) (ha : ∀ p ∈ regTab, p ∈ ds) : xs.length = 6 ∧ ∀ p, p ∈ xs ↔ p ∈ tabContentEncryption := by
  have hp : ds.Perm regTab := all_perm nodupReg h.rg.sub.2 h.rg.sub.1 ha
  have hp2 := hp.filter selContentEncryption
  rw [← h.got, filterContentEncryption] at hp2
  have hinj : ∀ p q : ByteArray × Bool, entCE p = entCE q → p = q := by
    rintro ⟨a, b⟩ ⟨d, e⟩ hpq
    simp [entCE, ent] at hpq
    simp [hpq]
  refine ⟨show xs.length = tabContentEncryption.length by simpa using hp2.length_eq, fun p => ⟨fun hm => ?_, fun hm => ?_⟩⟩
  · obtain ⟨q, hq, e⟩ := List.mem_map.1 (hp2.mem_iff.1 (List.mem_map_of_mem (f := entCE) hm))
    rw [← hinj _ _ e]; exact hq
  · obtain ⟨q, hq, e⟩ := List.mem_map.1 (hp2.mem_iff.2 (List.mem_map_of_mem (f := entCE) hm))
    rw [← hinj _ _ e]; exact hq
set_option maxRecDepth 100000 in
set_option maxHeartbeats 4000000 in
theorem byKindContentEncryption_calls (w : World) : Calls Try.prog 42 #[.int .u8 3] w (LPost (fun p => [vContentEncryptionAlgorithm p]) 66 tabContentEncryption w) := by
  obtain ⟨i0, hi, hz0, hz1, hz2⟩ := info_parts infoKA
  have HI := Lib.hid (And.intro hi (And.intro hz0 (And.intro hz1 hz2)))
  have hmk := mkKA w
  obtain ⟨W1, hW1⟩ : ∃ W1, W1 = w.alloc (.cells (Array.replicate 8 .nilIface) 66) := ⟨_, rfl⟩
  have hs1 : W1.heap.size = w.heap.size + 1 := by rw [hW1]; simp
  have HO1 := Lib.hid (show W1.ownsRow w.heap.size 66 1 (.slice (some ⟨w.heap.size, 0, none⟩) 0 8) 0 [] from ⟨by simp, .inr ⟨w.heap.size, 8, _, rfl, Nat.le_refl _, by rw [hW1]; exact heap_alloc_new w _, by decide, by unfold maxLen; decide, by simp, by simp⟩⟩)
  have HD1 := Lib.hid (show Below w.heap.size w W1 by rw [hW1]; exact below_alloc' (Below.refl w.heap.size w) _)
  rw [← hW1] at hmk
  have HR := Lib.hid (algRegistry_calls (W1.alloc (.cells #[.slice (some ⟨w.heap.size, 0, none⟩) 0 8] 76)))
  have HC1 := Lib.hid (Blk.new W1 76 #[.slice (some ⟨w.heap.size, 0, none⟩) 0 8])
  have HS1 := Lib.hid hs1
  clear hW1 hi hz0 hz1 hz2 hs1
  go_enter Try.func42, Try.ntmps42
  go_wp2_with fail
  refine HR.out.mono ?_
  rintro e w3 ⟨m, rfl, hmlow, hB3, hM⟩
  obtain ⟨w4, hrng, hR4, hg4, hs4⟩ := run_range Try.underlying83 w3 m regTab hM
  have HN : Hid (W1.heap.size ≤ w3.heap.size) := Lib.hid (Nat.le_trans (by simp) hB3.size)
  have hb13 : Below w.heap.size w w3 := below_then (below_alloc' HD1.out _) hB3
  have hc3 := HC1.out.below hB3 (by simp)
  have ho3 : w3.ownsRow w.heap.size 66 1 (.slice (some ⟨w.heap.size, 0, none⟩) 0 8) 0 [] := own_below (World.ownsRow.alloc HO1.out _) hB3
  have HRD := Lib.hid (show RdContentEncryption w w4 m w3.heap.size W1.heap.size [] [] (.slice (some ⟨w.heap.size, 0, none⟩) 0 8) from
    ⟨hR4, hb13.trans (below_of_grown (g := w4.heap.size) ⟨hg4.os, hg4.tape, hg4.output, hg4.size, fun k hk _ => hg4.block k hk (by simp)⟩ (by have := hb13.size; omega) hb13.size), hc3.grown hg4 (by simp), ho3.kept hg4 (by simp [Value.ownBlock]), rfl, by have := HS1.out; omega, by have := HS1.out; simp at hmlow; omega, hb13.size, by decide⟩)
  clear hmk HO1 HD1 HC1 HR hM hB3 hR4 hg4 hb13 hc3 ho3 hmlow hs4
  go_wp2_with fail
  go_loopg [] (togo regTab []) (fun k wr => ∃ ds xs v, k = togo regTab ds ∧ Hid (RdContentEncryption w wr m w3.heap.size W1.heap.size ds xs v))
  case atStart => exact ⟨[], [], _, rfl, HRD⟩
  case round =>
    clear HRD
    obtain ⟨ds, xs, v, hk, HR⟩ := hrel
    have HKK := Lib.hid hk
    clear hk
    obtain ⟨Av, cc, rfl, _, _⟩ := own_form HR.out.own
    rcases HR.out.rg.next (P := Try.prog) 0 nodupReg with ⟨hall, hrun⟩ | ⟨q, hq, hf, w5, hrun, hR5, hg5, hent⟩
    · obtain ⟨hlen, hmem⟩ := HR.out.all hall
      obtain ⟨g, c, cur, hv, hgl, hbg, hn1, _, _, htk⟩ : ∃ g cap cur, Value.slice Av xs.length cc = .slice (some ⟨g, 0, none⟩) xs.length cap ∧ w.heap.size ≤ g ∧ Blk wr g 66 cur ∧ xs.length ≤ cap ∧ cap ≤ maxLen ∧ cur.size = cap * 1 ∧ cur.toList.take (xs.length * 1) = xs.map vContentEncryptionAlgorithm := by
        rcases HR.out.own.2 with ⟨_, h0⟩ | ⟨g, cap, cur, h1, h2, h3, h4, h5, h6, h7⟩
        · exfalso; omega
        · exact ⟨g, cap, cur, h1, h2, h3, h4, h5, h6, h7⟩
      have hcur : cur = (xs.flatMap (fun p => [vContentEncryptionAlgorithm p]) ++ cur.toList.drop xs.length).toArray := by
        apply Array.toList_inj.1
        rw [flat1, ← htk, Nat.mul_one, List.take_append_drop]
      have hcap := HR.out.cap
      rw [hv] at hcap
      have hne : W1.heap.size ≠ g := by
        rintro rfl
        unfold Blk at hcap hbg
        rw [hcap] at hbg
        injection hbg with hbg
        injection hbg with _ ht
        exact absurd ht (by decide)
      obtain ⟨i, ie, hsl, hsz⟩ := sl_of (t := 76) (e := 66) (sz := 1) (by' := 16) (ke := 20) (n := xs.length) (by kernel_rfl) (by kernel_rfl) (by kernel_rfl) (fun w => by kernel_rfl) (by decide) (by decide) (by omega)
      have HC := Lib.hid (Slice_calls hsl (some ⟨g, 0, none⟩) c (keepsContentEncryptionAlgorithm (L0 := tabContentEncryption) (rest := cur.toList.drop xs.length) hcap hne hbg.lt (by omega) hsl.hie hsz) (by omega) (by omega) wr ⟨World.grownBy.refl _ _, xs, rfl, hmem, by rw [← hcur]; exact hbg⟩)
      have cv : wr.cell? ⟨W1.heap.size, 0, none⟩ = some (.slice (some ⟨g, 0, none⟩) xs.length c) := by rw [hcap.cell]; rfl
      have HF := Lib.hid (And.intro hcap (And.intro hne (And.intro hgl hlen)))
      clear hall hlen hmem hv hgl hbg hn1 htk hcur hcap hne hsl hsz
      go_wp2_with fail
      refine HC.out.mono ?_
      rintro e w9 ⟨rfl, hI⟩
      have HI9 := Lib.hid hI
      have cv9 : w9.cell? ⟨W1.heap.size, 0, none⟩ = some (.slice (some ⟨g, 0, none⟩) xs.length c) := by rw [(HF.out.1.grown hI.gr (by intro e; injection e with e; exact HF.out.2.1 e)).cell]; rfl
      clear hI HC cv hrun
      go_wp2
      go_ret
      obtain ⟨ys, hy, hm, hb⟩ := HI9.out.ex
      have hgl := HF.out.2.2.1
      have hlen := HF.out.2.2.2
      exact ⟨g, xs.length, c, ys, _, rfl, hy, hlen, hm, HR.out.low.trans (below_of_grown HI9.out.gr hgl HR.out.low.size), hgl, hb⟩
    · rcases reg_cases hq with ⟨p, hp, rfl⟩ | ⟨p, hp, rfl⟩ | ⟨p, hp, rfl⟩
      · have hs := selContentEncryption_own p hp
        have c5 : (w5.alloc (.cells #[.int .u8 3, .iface 40 (two p.1 p.2), .bool true] 81)).cell? ⟨W1.heap.size, 0, none⟩ = some (.slice Av xs.length cc) := by rw [((HR.out.cap.grown hg5 (fun e => (HR.out.rg.blk_ne HR.out.cap).2 (by injection e))).alloc _).cell]; rfl
        have HO := Lib.hid (HR.out.own.kept hg5 (.inr (Ne.symm (HR.out.rg.own_ne HR.out.own).2)))
        have HB5 := Lib.hid (HR.out.low.trans (below_of_grown hg5 HR.out.rlow HR.out.low.size))
        have HTL := Lib.hid (togo_less hq hf)
        have HALL := Lib.hid (And.intro hR5 (And.intro hg5 (And.intro hq (And.intro hf hs))))
        have hrd := reads_lit (w5.alloc (.cells #[.int .u8 3, .iface 40 (two p.1 p.2), .bool true] 81)) 1 1 [vContentEncryptionAlgorithm p] #[vContentEncryptionAlgorithm p] rfl rfl 66
        rw [show (w5.alloc (.cells #[.int .u8 3, .iface 40 (two p.1 p.2), .bool true] 81)).heap.size = w5.heap.size + 1 from by simp] at hrd
        have HRD := Lib.hid hrd
        have hfew := HR.out.few
        simp only [entCE, ent] at hrun hent
        clear hs hR5 hg5 hq hf hrd
        go_wp2_with (at_builtin; refine wpList_append_any _ rfl (.tmp 17) (.tmp 20) 76 rfl w.heap.size 66 i0 .nilIface 1 16 Try.underlying76 HI.out.1 HI.out.2.1 HI.out.2.2.1 HI.out.2.2.2 rfl (by decide) _ xs.length (xs.map vContentEncryptionAlgorithm) rfl ((HO.out.alloc _).alloc _) (some ⟨w5.heap.size + 1, 0, none⟩) 1 1 [vContentEncryptionAlgorithm p] rfl HRD.out (by intro u hu; simp at hu; subst hu; rfl) (by unfold maxLen; omega) (by omega) (below_alloc' (below_alloc' HB5.out _) _).size ?_; intro v' w6 hown hg6 hat; obtain ⟨Aw, cw, rfl, _, _⟩ := own_form hown; obtain ⟨hc6, hr6⟩ := HR.out.took HALL.out.1 HALL.out.2.1 HALL.out.2.2.1 HALL.out.2.2.2.1 HALL.out.2.2.2.2 _ _ hown hg6; have c6 : w6.cell? ⟨W1.heap.size, 0, none⟩ = some (.slice Av xs.length cc) := (hc6.cell 0).trans rfl; have f6 := hc6.frozen 0; have HR6 := Lib.hid hr6; clear hown hg6 hat hc6 hr6)
        go_wp2_with fail
        go_roundg (togo regTab (ds ++ [entCE p]))
        case measure => have := HTL.out; have := HKK.out; omega
        case rel => exact ⟨_, _, _, rfl, HR6⟩
      · have hs := selContentEncryption_KeyEncryption p hp
        have HR6 := Lib.hid ((HR.out.skip hR5 hg5 hq hf hs).alloc (.cells #[.int .u8 2, .iface 36 (three p.1 p.2.1 p.2.2), .bool true] 81))
        have HTL := Lib.hid (togo_less hq hf)
        simp only [entKE, ent] at hrun hent
        clear hq hf hR5 hg5 hs
        go_wp2_with fail
        go_roundg (togo regTab (ds ++ [entKE p]))
        case measure => have := HTL.out; have := HKK.out; omega
        case rel => exact ⟨_, _, _, rfl, HR6⟩
      · have hs := selContentEncryption_Signature p hp
        have HR6 := Lib.hid ((HR.out.skip hR5 hg5 hq hf hs).alloc (.cells #[.int .u8 1, .iface 32 (three p.1 p.2.1 p.2.2), .bool true] 81))
        have HTL := Lib.hid (togo_less hq hf)
        simp only [entSI, ent] at hrun hent
        clear hq hf hR5 hg5 hs
        go_wp2_with fail
        go_roundg (togo regTab (ds ++ [entSI p]))
        case measure => have := HTL.out; have := HKK.out; omega
        case rel => exact ⟨_, _, _, rfl, HR6⟩
end Go.Proofs.Ytenneobgjalfhaa.So
