import Derived.Test.YtapjbdigpleekaaGreatGI
/- impl.known of another kind of maps; the conditions are on what lies in memory. Printed by gen_mpknown.py. -/
set_option linter.unusedVariables false
set_option linter.unusedSimpArgs false
namespace Go.Proofs.YtapjbdigpleekaaGreat.Mp
open Go.RowKit Go.Proofs.YtapjbdigpleekaaGreat.K Go.Proofs.YtapjbdigpleekaaGreat.Cl
/-- The names in the order in which impl.known asks. -/
def ord_jwe : List ByteArray := [⟨#[99, 116, 121]⟩, ⟨#[106, 107, 117]⟩, ⟨#[107, 105, 100]⟩, ⟨#[116, 121, 112]⟩, ⟨#[120, 53, 116]⟩, ⟨#[120, 53, 116, 35, 83, 50, 53, 54]⟩, ⟨#[120, 53, 117]⟩, ⟨#[99, 114, 105, 116]⟩]
set_option maxRecDepth 100000 in
set_option maxHeartbeats 8000000 in
theorem jwe_known {w : World} {B g : Nat} {S : List (ByteArray × PV)} (h : Hd 1 w B g S) :
    Calls Tryz.prog 101 #[.iface 192 (.pointer (some ⟨g, 0, none⟩))] w (KnownP S ord_jwe w) := by
  obtain ⟨cs, m, hp⟩ := h
  obtain ⟨o0, HA0, HE0⟩ := hp.txt (F := 203) (List.mem_of_getElem? (show (fldK 1)[0]? = some (⟨#[99, 116, 121]⟩, 5, 0) from rfl)) rfl (fun w' p o h1 h2 h3 => jwe_ContentType w' g cs p o h1 h2 h3)
  obtain ⟨o1, HA1, HE1⟩ := hp.txt (F := 208) (List.mem_of_getElem? (show (fldK 1)[2]? = some (⟨#[106, 107, 117]⟩, 7, 0) from rfl)) rfl (fun w' p o h1 h2 h3 => jwe_JWKSetURL w' g cs p o h1 h2 h3)
  obtain ⟨o2, HA2, HE2⟩ := hp.txt (F := 209) (List.mem_of_getElem? (show (fldK 1)[3]? = some (⟨#[107, 105, 100]⟩, 8, 0) from rfl)) rfl (fun w' p o h1 h2 h3 => jwe_KeyID w' g cs p o h1 h2 h3)
  obtain ⟨o3, HA3, HE3⟩ := hp.txt (F := 214) (List.mem_of_getElem? (show (fldK 1)[4]? = some (⟨#[116, 121, 112]⟩, 9, 0) from rfl)) rfl (fun w' p o h1 h2 h3 => jwe_Type w' g cs p o h1 h2 h3)
  obtain ⟨o4, HA4, HE4⟩ := hp.txt (F := 215) (List.mem_of_getElem? (show (fldK 1)[5]? = some (⟨#[120, 53, 116]⟩, 10, 0) from rfl)) rfl (fun w' p o h1 h2 h3 => jwe_X509CertThumbprint w' g cs p o h1 h2 h3)
  obtain ⟨o5, HA5, HE5⟩ := hp.txt (F := 216) (List.mem_of_getElem? (show (fldK 1)[6]? = some (⟨#[120, 53, 116, 35, 83, 50, 53, 54]⟩, 11, 0) from rfl)) rfl (fun w' p o h1 h2 h3 => jwe_X509CertThumbprintS256 w' g cs p o h1 h2 h3)
  obtain ⟨o6, HA6, HE6⟩ := hp.txt (F := 217) (List.mem_of_getElem? (show (fldK 1)[7]? = some (⟨#[120, 53, 117]⟩, 12, 0) from rfl)) rfl (fun w' p o h1 h2 h3 => jwe_X509URL w' g cs p o h1 h2 h3)
  obtain ⟨A7, n7, c7, HA7, HE7⟩ := hp.lst (F := 205) (List.mem_of_getElem? (show (fldK 1)[1]? = some (⟨#[99, 114, 105, 116]⟩, 6, 2) from rfl)) rfl (fun w' A n c h1 h2 _ => (jwe_Critical w' g cs A n c h1 h2).mono (fun e w2 h => by
    obtain ⟨he, q, hw⟩ := h
    subst hw
    exact ⟨he, K.below_drewN (Below.refl _ _) q, rfl⟩))
  have ta0 : ∀ W : World, Sem.run Tryz.prog (Instr.typeAssert (.iface 192 (.pointer (some ⟨g, 0, none⟩))) 80 83 true) W = .ok (.tuple #[.nilIface, .bool false]) W := fun W => run_typeAssert_lacksB Tryz.underlying83 (by kernel_rfl) (by kernel_rfl) _ _ W
  have ta1 : ∀ W : World, Sem.run Tryz.prog (Instr.typeAssert (.iface 192 (.pointer (some ⟨g, 0, none⟩))) 80 90 true) W = .ok (.tuple #[.iface 192 (.pointer (some ⟨g, 0, none⟩)), .bool true]) W := fun W => run_typeAssert_hasB Tryz.underlying90 (by kernel_rfl) _ _ W
  have hna0 : ∀ W : World, Sem.run Tryz.prog (nilAhead 399 192 (.pointer (some ⟨g, 0, none⟩)) "ContentType") W = .ok (some false) W := fun W => by kernel_rfl
  have hms0 : ∀ W : World, (method 399 192 (.pointer (some ⟨g, 0, none⟩)) "ContentType").run Tryz.prog W = .ok (203, (.pointer (some ⟨g, 0, none⟩))) W := fun W => by kernel_rfl
  have hna1 : ∀ W : World, Sem.run Tryz.prog (nilAhead 399 192 (.pointer (some ⟨g, 0, none⟩)) "JWKSetURL") W = .ok (some false) W := fun W => by kernel_rfl
  have hms1 : ∀ W : World, (method 399 192 (.pointer (some ⟨g, 0, none⟩)) "JWKSetURL").run Tryz.prog W = .ok (208, (.pointer (some ⟨g, 0, none⟩))) W := fun W => by kernel_rfl
  have hna2 : ∀ W : World, Sem.run Tryz.prog (nilAhead 399 192 (.pointer (some ⟨g, 0, none⟩)) "KeyID") W = .ok (some false) W := fun W => by kernel_rfl
  have hms2 : ∀ W : World, (method 399 192 (.pointer (some ⟨g, 0, none⟩)) "KeyID").run Tryz.prog W = .ok (209, (.pointer (some ⟨g, 0, none⟩))) W := fun W => by kernel_rfl
  have hna3 : ∀ W : World, Sem.run Tryz.prog (nilAhead 399 192 (.pointer (some ⟨g, 0, none⟩)) "Type") W = .ok (some false) W := fun W => by kernel_rfl
  have hms3 : ∀ W : World, (method 399 192 (.pointer (some ⟨g, 0, none⟩)) "Type").run Tryz.prog W = .ok (214, (.pointer (some ⟨g, 0, none⟩))) W := fun W => by kernel_rfl
  have hna4 : ∀ W : World, Sem.run Tryz.prog (nilAhead 399 192 (.pointer (some ⟨g, 0, none⟩)) "X509CertThumbprint") W = .ok (some false) W := fun W => by kernel_rfl
  have hms4 : ∀ W : World, (method 399 192 (.pointer (some ⟨g, 0, none⟩)) "X509CertThumbprint").run Tryz.prog W = .ok (215, (.pointer (some ⟨g, 0, none⟩))) W := fun W => by kernel_rfl
  have hna5 : ∀ W : World, Sem.run Tryz.prog (nilAhead 399 192 (.pointer (some ⟨g, 0, none⟩)) "X509CertThumbprintS256") W = .ok (some false) W := fun W => by kernel_rfl
  have hms5 : ∀ W : World, (method 399 192 (.pointer (some ⟨g, 0, none⟩)) "X509CertThumbprintS256").run Tryz.prog W = .ok (216, (.pointer (some ⟨g, 0, none⟩))) W := fun W => by kernel_rfl
  have hna6 : ∀ W : World, Sem.run Tryz.prog (nilAhead 399 192 (.pointer (some ⟨g, 0, none⟩)) "X509URL") W = .ok (some false) W := fun W => by kernel_rfl
  have hms6 : ∀ W : World, (method 399 192 (.pointer (some ⟨g, 0, none⟩)) "X509URL").run Tryz.prog W = .ok (217, (.pointer (some ⟨g, 0, none⟩))) W := fun W => by kernel_rfl
  have hna7 : ∀ W : World, Sem.run Tryz.prog (nilAhead 399 192 (.pointer (some ⟨g, 0, none⟩)) "Critical") W = .ok (some false) W := fun W => by kernel_rfl
  have hms7 : ∀ W : World, (method 399 192 (.pointer (some ⟨g, 0, none⟩)) "Critical").run Tryz.prog W = .ok (205, (.pointer (some ⟨g, 0, none⟩))) W := fun W => by kernel_rfl
  have HO0 : Hid (KO w (w.alloc (.cells #[.slice none 0 0] 22)) w.heap.size [] S) := Lib.hid ⟨[], ⟨none, 0, 0, Blk.new w _ _, ⟨World.ownsRow_nil _ _ _ _, fun f hf => by cases hf⟩, rfl, Nat.le_refl _⟩, rfl, below_alloc' (Below.refl _ _) _⟩
  clear hp
  go_enter Tryz.func101, Tryz.ntmps101
  have HB0 : Hid (Below w.heap.size w (w.alloc (.cells #[.slice none 0 0] 22))) := Lib.hid (by obtain ⟨fs, _, _, hb⟩ := HO0.out; exact hb)
  go_wp2_with fail
  refine (HA0.out _ HB0.out).mono ?_
  rintro e wa0 ⟨rfl, rfl⟩
  go_wp2_with fail
  refine (ktext HO0.out (by decide) ⟨#[99, 116, 121]⟩ o0 HE0.out).mono ?_
  rintro e w0 ⟨rfl, hk0⟩
  have HO1 := Lib.hid hk0
  clear hk0 HO0 HB0 HA0
  have HB1 : Hid (Below w.heap.size w w0) := Lib.hid (by obtain ⟨fs, _, _, hb⟩ := HO1.out; exact hb)
  go_wp2_with fail
  refine (HA1.out _ HB1.out).mono ?_
  rintro e wa1 ⟨rfl, rfl⟩
  go_wp2_with fail
  refine (ktext HO1.out (by decide) ⟨#[106, 107, 117]⟩ o1 HE1.out).mono ?_
  rintro e w1 ⟨rfl, hk1⟩
  have HO2 := Lib.hid hk1
  clear hk1 HO1 HB1 HA1
  have HB2 : Hid (Below w.heap.size w w1) := Lib.hid (by obtain ⟨fs, _, _, hb⟩ := HO2.out; exact hb)
  go_wp2_with fail
  refine (HA2.out _ HB2.out).mono ?_
  rintro e wa2 ⟨rfl, rfl⟩
  go_wp2_with fail
  refine (ktext HO2.out (by decide) ⟨#[107, 105, 100]⟩ o2 HE2.out).mono ?_
  rintro e w2 ⟨rfl, hk2⟩
  have HO3 := Lib.hid hk2
  clear hk2 HO2 HB2 HA2
  have HB3 : Hid (Below w.heap.size w w2) := Lib.hid (by obtain ⟨fs, _, _, hb⟩ := HO3.out; exact hb)
  go_wp2_with fail
  refine (HA3.out _ HB3.out).mono ?_
  rintro e wa3 ⟨rfl, rfl⟩
  go_wp2_with fail
  refine (ktext HO3.out (by decide) ⟨#[116, 121, 112]⟩ o3 HE3.out).mono ?_
  rintro e w3 ⟨rfl, hk3⟩
  have HO4 := Lib.hid hk3
  clear hk3 HO3 HB3 HA3
  have HB4 : Hid (Below w.heap.size w w3) := Lib.hid (by obtain ⟨fs, _, _, hb⟩ := HO4.out; exact hb)
  go_wp2_with fail
  refine (HA4.out _ HB4.out).mono ?_
  rintro e wa4 ⟨rfl, rfl⟩
  go_wp2_with fail
  refine (ktext HO4.out (by decide) ⟨#[120, 53, 116]⟩ o4 HE4.out).mono ?_
  rintro e w4 ⟨rfl, hk4⟩
  have HO5 := Lib.hid hk4
  clear hk4 HO4 HB4 HA4
  have HB5 : Hid (Below w.heap.size w w4) := Lib.hid (by obtain ⟨fs, _, _, hb⟩ := HO5.out; exact hb)
  go_wp2_with fail
  refine (HA5.out _ HB5.out).mono ?_
  rintro e wa5 ⟨rfl, rfl⟩
  go_wp2_with fail
  refine (ktext HO5.out (by decide) ⟨#[120, 53, 116, 35, 83, 50, 53, 54]⟩ o5 HE5.out).mono ?_
  rintro e w5 ⟨rfl, hk5⟩
  have HO6 := Lib.hid hk5
  clear hk5 HO5 HB5 HA5
  have HB6 : Hid (Below w.heap.size w w5) := Lib.hid (by obtain ⟨fs, _, _, hb⟩ := HO6.out; exact hb)
  go_wp2_with fail
  refine (HA6.out _ HB6.out).mono ?_
  rintro e wa6 ⟨rfl, rfl⟩
  go_wp2_with fail
  refine (ktext HO6.out (by decide) ⟨#[120, 53, 117]⟩ o6 HE6.out).mono ?_
  rintro e w6 ⟨rfl, hk6⟩
  have HO7 := Lib.hid hk6
  clear hk6 HO6 HB6 HA6
  have HB7 : Hid (Below w.heap.size w w6) := Lib.hid (by obtain ⟨fs, _, _, hb⟩ := HO7.out; exact hb)
  go_wp2_with fail
  refine (HA7.out _ HB7.out).mono ?_
  rintro e wa7 ⟨rfl, hba7, hhe7⟩
  have HO7a : Hid (KO w wa7 w.heap.size ((((((([] ++ [⟨#[99, 116, 121]⟩]) ++ [⟨#[106, 107, 117]⟩]) ++ [⟨#[107, 105, 100]⟩]) ++ [⟨#[116, 121, 112]⟩]) ++ [⟨#[120, 53, 116]⟩]) ++ [⟨#[120, 53, 116, 35, 83, 50, 53, 54]⟩]) ++ [⟨#[120, 53, 117]⟩]) S) := Lib.hid (by obtain ⟨fs, h1, h2, h3⟩ := HO7.out; exact ⟨fs, h1.below (hba7), h2, h3.trans (hba7.mono h3.size)⟩)
  have HB7a : Hid (Below w.heap.size w wa7) := Lib.hid (by obtain ⟨fs, _, _, hb⟩ := HO7a.out; exact hb)
  clear hba7 hhe7
  go_wp2_with fail
  refine (klist HO7a.out (by decide) ⟨#[99, 114, 105, 116]⟩ A7 n7 c7 (HE7.out _ HB7a.out)).mono ?_
  rintro e w7 ⟨rfl, hk7⟩
  have HO8 := Lib.hid hk7
  clear hk7 HO7 HB7 HA7
  obtain ⟨fs, ⟨AA, nn, cc, hb, hfo, hn, _⟩, hf, hB⟩ := HO8.out
  have hcell : w7.cell? ⟨w.heap.size, 0, none⟩ = some (.slice AA nn cc) := by rw [hb.cell]; rfl
  have HF := Lib.hid (And.intro hn (And.intro hfo (And.intro hf hB)))
  clear hb hn hfo hf hB HO8
  go_wp2
  go_ret
  exact ⟨_, _, _, fs, rfl, HF.out.1, HF.out.2.1, HF.out.2.2.1, HF.out.2.2.2⟩
end Go.Proofs.YtapjbdigpleekaaGreat.Mp
