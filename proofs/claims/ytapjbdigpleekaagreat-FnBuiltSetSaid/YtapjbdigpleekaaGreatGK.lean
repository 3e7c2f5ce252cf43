import Derived.Test.YtapjbdigpleekaaGreatGI
/- impl.known of another kind of maps; the conditions are on what lies in memory. Printed by gen_mpknown.py. -/
set_option linter.unusedVariables false
set_option linter.unusedSimpArgs false
namespace Go.Proofs.YtapjbdigpleekaaGreat.Mp
open Go.RowKit Go.Proofs.YtapjbdigpleekaaGreat.K Go.Proofs.YtapjbdigpleekaaGreat.Cl
/-- The names in the order in which impl.known asks. -/
def ord_oid : List ByteArray := [⟨#[101, 109, 97, 105, 108]⟩, ⟨#[102, 97, 109, 105, 108, 121, 95, 110, 97, 109, 101]⟩, ⟨#[103, 101, 110, 100, 101, 114]⟩, ⟨#[103, 105, 118, 101, 110, 95, 110, 97, 109, 101]⟩, ⟨#[105, 115, 115]⟩, ⟨#[106, 116, 105]⟩, ⟨#[108, 111, 99, 97, 108, 101]⟩, ⟨#[109, 105, 100, 100, 108, 101, 95, 110, 97, 109, 101]⟩, ⟨#[110, 97, 109, 101]⟩, ⟨#[110, 105, 99, 107, 110, 97, 109, 101]⟩, ⟨#[112, 104, 111, 110, 101, 95, 110, 117, 109, 98, 101, 114]⟩, ⟨#[112, 105, 99, 116, 117, 114, 101]⟩, ⟨#[112, 114, 101, 102, 101, 114, 114, 101, 100, 95, 117, 115, 101, 114, 110, 97, 109, 101]⟩, ⟨#[112, 114, 111, 102, 105, 108, 101]⟩, ⟨#[115, 117, 98]⟩, ⟨#[119, 101, 98, 115, 105, 116, 101]⟩, ⟨#[122, 111, 110, 101, 105, 110, 102, 111]⟩, ⟨#[101, 109, 97, 105, 108, 95, 118, 101, 114, 105, 102, 105, 101, 100]⟩, ⟨#[112, 104, 111, 110, 101, 95, 110, 117, 109, 98, 101, 114, 95, 118, 101, 114, 105, 102, 105, 101, 100]⟩, ⟨#[97, 117, 100]⟩]
set_option maxRecDepth 100000 in
set_option maxHeartbeats 8000000 in
theorem oid_known {w : World} {B g : Nat} {S : List (ByteArray × PV)} (h : Hd 3 w B g S) :
    Calls Tryz.prog 101 #[.iface 199 (.pointer (some ⟨g, 0, none⟩))] w (KnownP S ord_oid w) := by
  obtain ⟨cs, m, hp⟩ := h
  obtain ⟨o0, HA0, HE0⟩ := hp.txt (F := 228) (List.mem_of_getElem? (show (fldK 3)[1]? = some (⟨#[101, 109, 97, 105, 108]⟩, 2, 0) from rfl)) rfl (fun w' p o h1 h2 h3 => oid_Email w' g cs p o h1 h2 h3)
  obtain ⟨o1, HA1, HE1⟩ := hp.txt (F := 230) (List.mem_of_getElem? (show (fldK 3)[3]? = some (⟨#[102, 97, 109, 105, 108, 121, 95, 110, 97, 109, 101]⟩, 4, 0) from rfl)) rfl (fun w' p o h1 h2 h3 => oid_FamilyName w' g cs p o h1 h2 h3)
  obtain ⟨o2, HA2, HE2⟩ := hp.txt (F := 231) (List.mem_of_getElem? (show (fldK 3)[4]? = some (⟨#[103, 101, 110, 100, 101, 114]⟩, 5, 0) from rfl)) rfl (fun w' p o h1 h2 h3 => oid_Gender w' g cs p o h1 h2 h3)
  obtain ⟨o3, HA3, HE3⟩ := hp.txt (F := 233) (List.mem_of_getElem? (show (fldK 3)[5]? = some (⟨#[103, 105, 118, 101, 110, 95, 110, 97, 109, 101]⟩, 6, 0) from rfl)) rfl (fun w' p o h1 h2 h3 => oid_GivenName w' g cs p o h1 h2 h3)
  obtain ⟨o4, HA4, HE4⟩ := hp.txt (F := 235) (List.mem_of_getElem? (show (fldK 3)[6]? = some (⟨#[105, 115, 115]⟩, 7, 0) from rfl)) rfl (fun w' p o h1 h2 h3 => oid_Issuer w' g cs p o h1 h2 h3)
  obtain ⟨o5, HA5, HE5⟩ := hp.txt (F := 236) (List.mem_of_getElem? (show (fldK 3)[7]? = some (⟨#[106, 116, 105]⟩, 8, 0) from rfl)) rfl (fun w' p o h1 h2 h3 => oid_JwtID w' g cs p o h1 h2 h3)
  obtain ⟨o6, HA6, HE6⟩ := hp.txt (F := 238) (List.mem_of_getElem? (show (fldK 3)[8]? = some (⟨#[108, 111, 99, 97, 108, 101]⟩, 9, 0) from rfl)) rfl (fun w' p o h1 h2 h3 => oid_Locale w' g cs p o h1 h2 h3)
  obtain ⟨o7, HA7, HE7⟩ := hp.txt (F := 239) (List.mem_of_getElem? (show (fldK 3)[9]? = some (⟨#[109, 105, 100, 100, 108, 101, 95, 110, 97, 109, 101]⟩, 10, 0) from rfl)) rfl (fun w' p o h1 h2 h3 => oid_MiddleName w' g cs p o h1 h2 h3)
  obtain ⟨o8, HA8, HE8⟩ := hp.txt (F := 240) (List.mem_of_getElem? (show (fldK 3)[10]? = some (⟨#[110, 97, 109, 101]⟩, 11, 0) from rfl)) rfl (fun w' p o h1 h2 h3 => oid_Name w' g cs p o h1 h2 h3)
  obtain ⟨o9, HA9, HE9⟩ := hp.txt (F := 241) (List.mem_of_getElem? (show (fldK 3)[11]? = some (⟨#[110, 105, 99, 107, 110, 97, 109, 101]⟩, 12, 0) from rfl)) rfl (fun w' p o h1 h2 h3 => oid_Nickname w' g cs p o h1 h2 h3)
  obtain ⟨o10, HA10, HE10⟩ := hp.txt (F := 243) (List.mem_of_getElem? (show (fldK 3)[12]? = some (⟨#[112, 104, 111, 110, 101, 95, 110, 117, 109, 98, 101, 114]⟩, 13, 0) from rfl)) rfl (fun w' p o h1 h2 h3 => oid_PhoneNumber w' g cs p o h1 h2 h3)
  obtain ⟨o11, HA11, HE11⟩ := hp.txt (F := 245) (List.mem_of_getElem? (show (fldK 3)[14]? = some (⟨#[112, 105, 99, 116, 117, 114, 101]⟩, 15, 0) from rfl)) rfl (fun w' p o h1 h2 h3 => oid_Picture w' g cs p o h1 h2 h3)
  obtain ⟨o12, HA12, HE12⟩ := hp.txt (F := 246) (List.mem_of_getElem? (show (fldK 3)[15]? = some (⟨#[112, 114, 101, 102, 101, 114, 114, 101, 100, 95, 117, 115, 101, 114, 110, 97, 109, 101]⟩, 16, 0) from rfl)) rfl (fun w' p o h1 h2 h3 => oid_PreferredUsername w' g cs p o h1 h2 h3)
  obtain ⟨o13, HA13, HE13⟩ := hp.txt (F := 247) (List.mem_of_getElem? (show (fldK 3)[16]? = some (⟨#[112, 114, 111, 102, 105, 108, 101]⟩, 17, 0) from rfl)) rfl (fun w' p o h1 h2 h3 => oid_Profile w' g cs p o h1 h2 h3)
  obtain ⟨o14, HA14, HE14⟩ := hp.txt (F := 250) (List.mem_of_getElem? (show (fldK 3)[17]? = some (⟨#[115, 117, 98]⟩, 18, 0) from rfl)) rfl (fun w' p o h1 h2 h3 => oid_Subject w' g cs p o h1 h2 h3)
  obtain ⟨o15, HA15, HE15⟩ := hp.txt (F := 251) (List.mem_of_getElem? (show (fldK 3)[18]? = some (⟨#[119, 101, 98, 115, 105, 116, 101]⟩, 19, 0) from rfl)) rfl (fun w' p o h1 h2 h3 => oid_Website w' g cs p o h1 h2 h3)
  obtain ⟨o16, HA16, HE16⟩ := hp.txt (F := 252) (List.mem_of_getElem? (show (fldK 3)[19]? = some (⟨#[122, 111, 110, 101, 105, 110, 102, 111]⟩, 20, 0) from rfl)) rfl (fun w' p o h1 h2 h3 => oid_Zoneinfo w' g cs p o h1 h2 h3)
  obtain ⟨o17, HA17, HE17⟩ := hp.tru (F := 229) (List.mem_of_getElem? (show (fldK 3)[2]? = some (⟨#[101, 109, 97, 105, 108, 95, 118, 101, 114, 105, 102, 105, 101, 100]⟩, 3, 1) from rfl)) rfl (fun w' p o h1 h2 h3 => oid_EmailVerified w' g cs p o h1 h2 h3)
  obtain ⟨o18, HA18, HE18⟩ := hp.tru (F := 244) (List.mem_of_getElem? (show (fldK 3)[13]? = some (⟨#[112, 104, 111, 110, 101, 95, 110, 117, 109, 98, 101, 114, 95, 118, 101, 114, 105, 102, 105, 101, 100]⟩, 14, 1) from rfl)) rfl (fun w' p o h1 h2 h3 => oid_PhoneNumberVerified w' g cs p o h1 h2 h3)
  obtain ⟨A19, n19, c19, HA19, HE19⟩ := hp.lst (F := 226) (List.mem_of_getElem? (show (fldK 3)[0]? = some (⟨#[97, 117, 100]⟩, 1, 2) from rfl)) rfl (fun w' A n c h1 h2 h3 => by
    cases A with
    | none =>
      obtain ⟨rfl, rfl⟩ := h3 rfl
      refine (oid_Audience_none w' g cs 0 0 h1 h2).mono (fun e w2 h => ?_)
      obtain ⟨he, hw⟩ := h
      subst hw
      exact ⟨he, Below.refl _ _, rfl⟩
    | some a =>
      refine (oid_Audience_some w' g cs a n c h1 h2).mono (fun e w2 h => ?_)
      obtain ⟨he, hw⟩ := h
      subst hw
      exact ⟨he, Below.refl _ _, rfl⟩)
  have ta0 : ∀ W : World, Sem.run Tryz.prog (Instr.typeAssert (.iface 199 (.pointer (some ⟨g, 0, none⟩))) 80 83 true) W = .ok (.tuple #[.nilIface, .bool false]) W := fun W => run_typeAssert_lacksB Tryz.underlying83 (by kernel_rfl) (by kernel_rfl) _ _ W
  have ta1 : ∀ W : World, Sem.run Tryz.prog (Instr.typeAssert (.iface 199 (.pointer (some ⟨g, 0, none⟩))) 80 90 true) W = .ok (.tuple #[.nilIface, .bool false]) W := fun W => run_typeAssert_lacksB Tryz.underlying90 (by kernel_rfl) (by kernel_rfl) _ _ W
  have ta2 : ∀ W : World, Sem.run Tryz.prog (Instr.typeAssert (.iface 199 (.pointer (some ⟨g, 0, none⟩))) 80 115 true) W = .ok (.tuple #[.iface 199 (.pointer (some ⟨g, 0, none⟩)), .bool true]) W := fun W => run_typeAssert_hasB Tryz.underlying115 (by kernel_rfl) _ _ W
  have hna0 : ∀ W : World, Sem.run Tryz.prog (nilAhead 399 199 (.pointer (some ⟨g, 0, none⟩)) "Email") W = .ok (some false) W := fun W => by kernel_rfl
  have hms0 : ∀ W : World, (method 399 199 (.pointer (some ⟨g, 0, none⟩)) "Email").run Tryz.prog W = .ok (228, (.pointer (some ⟨g, 0, none⟩))) W := fun W => by kernel_rfl
  have hna1 : ∀ W : World, Sem.run Tryz.prog (nilAhead 399 199 (.pointer (some ⟨g, 0, none⟩)) "FamilyName") W = .ok (some false) W := fun W => by kernel_rfl
  have hms1 : ∀ W : World, (method 399 199 (.pointer (some ⟨g, 0, none⟩)) "FamilyName").run Tryz.prog W = .ok (230, (.pointer (some ⟨g, 0, none⟩))) W := fun W => by kernel_rfl
  have hna2 : ∀ W : World, Sem.run Tryz.prog (nilAhead 399 199 (.pointer (some ⟨g, 0, none⟩)) "Gender") W = .ok (some false) W := fun W => by kernel_rfl
  have hms2 : ∀ W : World, (method 399 199 (.pointer (some ⟨g, 0, none⟩)) "Gender").run Tryz.prog W = .ok (231, (.pointer (some ⟨g, 0, none⟩))) W := fun W => by kernel_rfl
  have hna3 : ∀ W : World, Sem.run Tryz.prog (nilAhead 399 199 (.pointer (some ⟨g, 0, none⟩)) "GivenName") W = .ok (some false) W := fun W => by kernel_rfl
  have hms3 : ∀ W : World, (method 399 199 (.pointer (some ⟨g, 0, none⟩)) "GivenName").run Tryz.prog W = .ok (233, (.pointer (some ⟨g, 0, none⟩))) W := fun W => by kernel_rfl
  have hna4 : ∀ W : World, Sem.run Tryz.prog (nilAhead 399 199 (.pointer (some ⟨g, 0, none⟩)) "Issuer") W = .ok (some false) W := fun W => by kernel_rfl
  have hms4 : ∀ W : World, (method 399 199 (.pointer (some ⟨g, 0, none⟩)) "Issuer").run Tryz.prog W = .ok (235, (.pointer (some ⟨g, 0, none⟩))) W := fun W => by kernel_rfl
  have hna5 : ∀ W : World, Sem.run Tryz.prog (nilAhead 399 199 (.pointer (some ⟨g, 0, none⟩)) "JwtID") W = .ok (some false) W := fun W => by kernel_rfl
  have hms5 : ∀ W : World, (method 399 199 (.pointer (some ⟨g, 0, none⟩)) "JwtID").run Tryz.prog W = .ok (236, (.pointer (some ⟨g, 0, none⟩))) W := fun W => by kernel_rfl
  have hna6 : ∀ W : World, Sem.run Tryz.prog (nilAhead 399 199 (.pointer (some ⟨g, 0, none⟩)) "Locale") W = .ok (some false) W := fun W => by kernel_rfl
  have hms6 : ∀ W : World, (method 399 199 (.pointer (some ⟨g, 0, none⟩)) "Locale").run Tryz.prog W = .ok (238, (.pointer (some ⟨g, 0, none⟩))) W := fun W => by kernel_rfl
  have hna7 : ∀ W : World, Sem.run Tryz.prog (nilAhead 399 199 (.pointer (some ⟨g, 0, none⟩)) "MiddleName") W = .ok (some false) W := fun W => by kernel_rfl
  have hms7 : ∀ W : World, (method 399 199 (.pointer (some ⟨g, 0, none⟩)) "MiddleName").run Tryz.prog W = .ok (239, (.pointer (some ⟨g, 0, none⟩))) W := fun W => by kernel_rfl
  have hna8 : ∀ W : World, Sem.run Tryz.prog (nilAhead 399 199 (.pointer (some ⟨g, 0, none⟩)) "Name") W = .ok (some false) W := fun W => by kernel_rfl
  have hms8 : ∀ W : World, (method 399 199 (.pointer (some ⟨g, 0, none⟩)) "Name").run Tryz.prog W = .ok (240, (.pointer (some ⟨g, 0, none⟩))) W := fun W => by kernel_rfl
  have hna9 : ∀ W : World, Sem.run Tryz.prog (nilAhead 399 199 (.pointer (some ⟨g, 0, none⟩)) "Nickname") W = .ok (some false) W := fun W => by kernel_rfl
  have hms9 : ∀ W : World, (method 399 199 (.pointer (some ⟨g, 0, none⟩)) "Nickname").run Tryz.prog W = .ok (241, (.pointer (some ⟨g, 0, none⟩))) W := fun W => by kernel_rfl
  have hna10 : ∀ W : World, Sem.run Tryz.prog (nilAhead 399 199 (.pointer (some ⟨g, 0, none⟩)) "PhoneNumber") W = .ok (some false) W := fun W => by kernel_rfl
  have hms10 : ∀ W : World, (method 399 199 (.pointer (some ⟨g, 0, none⟩)) "PhoneNumber").run Tryz.prog W = .ok (243, (.pointer (some ⟨g, 0, none⟩))) W := fun W => by kernel_rfl
  have hna11 : ∀ W : World, Sem.run Tryz.prog (nilAhead 399 199 (.pointer (some ⟨g, 0, none⟩)) "Picture") W = .ok (some false) W := fun W => by kernel_rfl
  have hms11 : ∀ W : World, (method 399 199 (.pointer (some ⟨g, 0, none⟩)) "Picture").run Tryz.prog W = .ok (245, (.pointer (some ⟨g, 0, none⟩))) W := fun W => by kernel_rfl
  have hna12 : ∀ W : World, Sem.run Tryz.prog (nilAhead 399 199 (.pointer (some ⟨g, 0, none⟩)) "PreferredUsername") W = .ok (some false) W := fun W => by kernel_rfl
  have hms12 : ∀ W : World, (method 399 199 (.pointer (some ⟨g, 0, none⟩)) "PreferredUsername").run Tryz.prog W = .ok (246, (.pointer (some ⟨g, 0, none⟩))) W := fun W => by kernel_rfl
  have hna13 : ∀ W : World, Sem.run Tryz.prog (nilAhead 399 199 (.pointer (some ⟨g, 0, none⟩)) "Profile") W = .ok (some false) W := fun W => by kernel_rfl
  have hms13 : ∀ W : World, (method 399 199 (.pointer (some ⟨g, 0, none⟩)) "Profile").run Tryz.prog W = .ok (247, (.pointer (some ⟨g, 0, none⟩))) W := fun W => by kernel_rfl
  have hna14 : ∀ W : World, Sem.run Tryz.prog (nilAhead 399 199 (.pointer (some ⟨g, 0, none⟩)) "Subject") W = .ok (some false) W := fun W => by kernel_rfl
  have hms14 : ∀ W : World, (method 399 199 (.pointer (some ⟨g, 0, none⟩)) "Subject").run Tryz.prog W = .ok (250, (.pointer (some ⟨g, 0, none⟩))) W := fun W => by kernel_rfl
  have hna15 : ∀ W : World, Sem.run Tryz.prog (nilAhead 399 199 (.pointer (some ⟨g, 0, none⟩)) "Website") W = .ok (some false) W := fun W => by kernel_rfl
  have hms15 : ∀ W : World, (method 399 199 (.pointer (some ⟨g, 0, none⟩)) "Website").run Tryz.prog W = .ok (251, (.pointer (some ⟨g, 0, none⟩))) W := fun W => by kernel_rfl
  have hna16 : ∀ W : World, Sem.run Tryz.prog (nilAhead 399 199 (.pointer (some ⟨g, 0, none⟩)) "Zoneinfo") W = .ok (some false) W := fun W => by kernel_rfl
  have hms16 : ∀ W : World, (method 399 199 (.pointer (some ⟨g, 0, none⟩)) "Zoneinfo").run Tryz.prog W = .ok (252, (.pointer (some ⟨g, 0, none⟩))) W := fun W => by kernel_rfl
  have hna17 : ∀ W : World, Sem.run Tryz.prog (nilAhead 399 199 (.pointer (some ⟨g, 0, none⟩)) "EmailVerified") W = .ok (some false) W := fun W => by kernel_rfl
  have hms17 : ∀ W : World, (method 399 199 (.pointer (some ⟨g, 0, none⟩)) "EmailVerified").run Tryz.prog W = .ok (229, (.pointer (some ⟨g, 0, none⟩))) W := fun W => by kernel_rfl
  have hna18 : ∀ W : World, Sem.run Tryz.prog (nilAhead 399 199 (.pointer (some ⟨g, 0, none⟩)) "PhoneNumberVerified") W = .ok (some false) W := fun W => by kernel_rfl
  have hms18 : ∀ W : World, (method 399 199 (.pointer (some ⟨g, 0, none⟩)) "PhoneNumberVerified").run Tryz.prog W = .ok (244, (.pointer (some ⟨g, 0, none⟩))) W := fun W => by kernel_rfl
  have hna19 : ∀ W : World, Sem.run Tryz.prog (nilAhead 399 199 (.pointer (some ⟨g, 0, none⟩)) "Audience") W = .ok (some false) W := fun W => by kernel_rfl
  have hms19 : ∀ W : World, (method 399 199 (.pointer (some ⟨g, 0, none⟩)) "Audience").run Tryz.prog W = .ok (226, (.pointer (some ⟨g, 0, none⟩))) W := fun W => by kernel_rfl
  have HO0 : Hid (KO w (w.alloc (.cells #[.slice none 0 0] 22)) w.heap.size [] S) := Lib.hid ⟨[], ⟨none, 0, 0, Blk.new w _ _, ⟨World.ownsRow_nil _ _ _ _, fun f hf => by cases hf⟩, rfl, Nat.le_refl _⟩, rfl, below_alloc' (Below.refl _ _) _⟩
  clear hp
  go_enter Tryz.func101, Tryz.ntmps101
  have HB0 : Hid (Below w.heap.size w (w.alloc (.cells #[.slice none 0 0] 22))) := Lib.hid (by obtain ⟨fs, _, _, hb⟩ := HO0.out; exact hb)
  go_wp2_with fail
  refine (HA0.out _ HB0.out).mono ?_
  rintro e wa0 ⟨rfl, rfl⟩
  go_wp2_with fail
  refine (ktext HO0.out (by decide) ⟨#[101, 109, 97, 105, 108]⟩ o0 HE0.out).mono ?_
  rintro e w0 ⟨rfl, hk0⟩
  have HO1 := Lib.hid hk0
  clear hk0 HO0 HB0 HA0
  have HB1 : Hid (Below w.heap.size w w0) := Lib.hid (by obtain ⟨fs, _, _, hb⟩ := HO1.out; exact hb)
  go_wp2_with fail
  refine (HA1.out _ HB1.out).mono ?_
  rintro e wa1 ⟨rfl, rfl⟩
  go_wp2_with fail
  refine (ktext HO1.out (by decide) ⟨#[102, 97, 109, 105, 108, 121, 95, 110, 97, 109, 101]⟩ o1 HE1.out).mono ?_
  rintro e w1 ⟨rfl, hk1⟩
  have HO2 := Lib.hid hk1
  clear hk1 HO1 HB1 HA1
  have HB2 : Hid (Below w.heap.size w w1) := Lib.hid (by obtain ⟨fs, _, _, hb⟩ := HO2.out; exact hb)
  go_wp2_with fail
  refine (HA2.out _ HB2.out).mono ?_
  rintro e wa2 ⟨rfl, rfl⟩
  go_wp2_with fail
  refine (ktext HO2.out (by decide) ⟨#[103, 101, 110, 100, 101, 114]⟩ o2 HE2.out).mono ?_
  rintro e w2 ⟨rfl, hk2⟩
  have HO3 := Lib.hid hk2
  clear hk2 HO2 HB2 HA2
  have HB3 : Hid (Below w.heap.size w w2) := Lib.hid (by obtain ⟨fs, _, _, hb⟩ := HO3.out; exact hb)
  go_wp2_with fail
  refine (HA3.out _ HB3.out).mono ?_
  rintro e wa3 ⟨rfl, rfl⟩
  go_wp2_with fail
  refine (ktext HO3.out (by decide) ⟨#[103, 105, 118, 101, 110, 95, 110, 97, 109, 101]⟩ o3 HE3.out).mono ?_
  rintro e w3 ⟨rfl, hk3⟩
  have HO4 := Lib.hid hk3
  clear hk3 HO3 HB3 HA3
  have HB4 : Hid (Below w.heap.size w w3) := Lib.hid (by obtain ⟨fs, _, _, hb⟩ := HO4.out; exact hb)
  go_wp2_with fail
  refine (HA4.out _ HB4.out).mono ?_
  rintro e wa4 ⟨rfl, rfl⟩
  go_wp2_with fail
  refine (ktext HO4.out (by decide) ⟨#[105, 115, 115]⟩ o4 HE4.out).mono ?_
  rintro e w4 ⟨rfl, hk4⟩
  have HO5 := Lib.hid hk4
  clear hk4 HO4 HB4 HA4
  have HB5 : Hid (Below w.heap.size w w4) := Lib.hid (by obtain ⟨fs, _, _, hb⟩ := HO5.out; exact hb)
  go_wp2_with fail
  refine (HA5.out _ HB5.out).mono ?_
  rintro e wa5 ⟨rfl, rfl⟩
  go_wp2_with fail
  refine (ktext HO5.out (by decide) ⟨#[106, 116, 105]⟩ o5 HE5.out).mono ?_
  rintro e w5 ⟨rfl, hk5⟩
  have HO6 := Lib.hid hk5
  clear hk5 HO5 HB5 HA5
  have HB6 : Hid (Below w.heap.size w w5) := Lib.hid (by obtain ⟨fs, _, _, hb⟩ := HO6.out; exact hb)
  go_wp2_with fail
  refine (HA6.out _ HB6.out).mono ?_
  rintro e wa6 ⟨rfl, rfl⟩
  go_wp2_with fail
  refine (ktext HO6.out (by decide) ⟨#[108, 111, 99, 97, 108, 101]⟩ o6 HE6.out).mono ?_
  rintro e w6 ⟨rfl, hk6⟩
  have HO7 := Lib.hid hk6
  clear hk6 HO6 HB6 HA6
  have HB7 : Hid (Below w.heap.size w w6) := Lib.hid (by obtain ⟨fs, _, _, hb⟩ := HO7.out; exact hb)
  go_wp2_with fail
  refine (HA7.out _ HB7.out).mono ?_
  rintro e wa7 ⟨rfl, rfl⟩
  go_wp2_with fail
  refine (ktext HO7.out (by decide) ⟨#[109, 105, 100, 100, 108, 101, 95, 110, 97, 109, 101]⟩ o7 HE7.out).mono ?_
  rintro e w7 ⟨rfl, hk7⟩
  have HO8 := Lib.hid hk7
  clear hk7 HO7 HB7 HA7
  have HB8 : Hid (Below w.heap.size w w7) := Lib.hid (by obtain ⟨fs, _, _, hb⟩ := HO8.out; exact hb)
  go_wp2_with fail
  refine (HA8.out _ HB8.out).mono ?_
  rintro e wa8 ⟨rfl, rfl⟩
  go_wp2_with fail
  refine (ktext HO8.out (by decide) ⟨#[110, 97, 109, 101]⟩ o8 HE8.out).mono ?_
  rintro e w8 ⟨rfl, hk8⟩
  have HO9 := Lib.hid hk8
  clear hk8 HO8 HB8 HA8
  have HB9 : Hid (Below w.heap.size w w8) := Lib.hid (by obtain ⟨fs, _, _, hb⟩ := HO9.out; exact hb)
  go_wp2_with fail
  refine (HA9.out _ HB9.out).mono ?_
  rintro e wa9 ⟨rfl, rfl⟩
  go_wp2_with fail
  refine (ktext HO9.out (by decide) ⟨#[110, 105, 99, 107, 110, 97, 109, 101]⟩ o9 HE9.out).mono ?_
  rintro e w9 ⟨rfl, hk9⟩
  have HO10 := Lib.hid hk9
  clear hk9 HO9 HB9 HA9
  have HB10 : Hid (Below w.heap.size w w9) := Lib.hid (by obtain ⟨fs, _, _, hb⟩ := HO10.out; exact hb)
  go_wp2_with fail
  refine (HA10.out _ HB10.out).mono ?_
  rintro e wa10 ⟨rfl, rfl⟩
  go_wp2_with fail
  refine (ktext HO10.out (by decide) ⟨#[112, 104, 111, 110, 101, 95, 110, 117, 109, 98, 101, 114]⟩ o10 HE10.out).mono ?_
  rintro e w10 ⟨rfl, hk10⟩
  have HO11 := Lib.hid hk10
  clear hk10 HO10 HB10 HA10
  have HB11 : Hid (Below w.heap.size w w10) := Lib.hid (by obtain ⟨fs, _, _, hb⟩ := HO11.out; exact hb)
  go_wp2_with fail
  refine (HA11.out _ HB11.out).mono ?_
  rintro e wa11 ⟨rfl, rfl⟩
  go_wp2_with fail
  refine (ktext HO11.out (by decide) ⟨#[112, 105, 99, 116, 117, 114, 101]⟩ o11 HE11.out).mono ?_
  rintro e w11 ⟨rfl, hk11⟩
  have HO12 := Lib.hid hk11
  clear hk11 HO11 HB11 HA11
  have HB12 : Hid (Below w.heap.size w w11) := Lib.hid (by obtain ⟨fs, _, _, hb⟩ := HO12.out; exact hb)
  go_wp2_with fail
  refine (HA12.out _ HB12.out).mono ?_
  rintro e wa12 ⟨rfl, rfl⟩
  go_wp2_with fail
  refine (ktext HO12.out (by decide) ⟨#[112, 114, 101, 102, 101, 114, 114, 101, 100, 95, 117, 115, 101, 114, 110, 97, 109, 101]⟩ o12 HE12.out).mono ?_
  rintro e w12 ⟨rfl, hk12⟩
  have HO13 := Lib.hid hk12
  clear hk12 HO12 HB12 HA12
  have HB13 : Hid (Below w.heap.size w w12) := Lib.hid (by obtain ⟨fs, _, _, hb⟩ := HO13.out; exact hb)
  go_wp2_with fail
  refine (HA13.out _ HB13.out).mono ?_
  rintro e wa13 ⟨rfl, rfl⟩
  go_wp2_with fail
  refine (ktext HO13.out (by decide) ⟨#[112, 114, 111, 102, 105, 108, 101]⟩ o13 HE13.out).mono ?_
  rintro e w13 ⟨rfl, hk13⟩
  have HO14 := Lib.hid hk13
  clear hk13 HO13 HB13 HA13
  have HB14 : Hid (Below w.heap.size w w13) := Lib.hid (by obtain ⟨fs, _, _, hb⟩ := HO14.out; exact hb)
  go_wp2_with fail
  refine (HA14.out _ HB14.out).mono ?_
  rintro e wa14 ⟨rfl, rfl⟩
  go_wp2_with fail
  refine (ktext HO14.out (by decide) ⟨#[115, 117, 98]⟩ o14 HE14.out).mono ?_
  rintro e w14 ⟨rfl, hk14⟩
  have HO15 := Lib.hid hk14
  clear hk14 HO14 HB14 HA14
  have HB15 : Hid (Below w.heap.size w w14) := Lib.hid (by obtain ⟨fs, _, _, hb⟩ := HO15.out; exact hb)
  go_wp2_with fail
  refine (HA15.out _ HB15.out).mono ?_
  rintro e wa15 ⟨rfl, rfl⟩
  go_wp2_with fail
  refine (ktext HO15.out (by decide) ⟨#[119, 101, 98, 115, 105, 116, 101]⟩ o15 HE15.out).mono ?_
  rintro e w15 ⟨rfl, hk15⟩
  have HO16 := Lib.hid hk15
  clear hk15 HO15 HB15 HA15
  have HB16 : Hid (Below w.heap.size w w15) := Lib.hid (by obtain ⟨fs, _, _, hb⟩ := HO16.out; exact hb)
  go_wp2_with fail
  refine (HA16.out _ HB16.out).mono ?_
  rintro e wa16 ⟨rfl, rfl⟩
  go_wp2_with fail
  refine (ktext HO16.out (by decide) ⟨#[122, 111, 110, 101, 105, 110, 102, 111]⟩ o16 HE16.out).mono ?_
  rintro e w16 ⟨rfl, hk16⟩
  have HO17 := Lib.hid hk16
  clear hk16 HO16 HB16 HA16
  have HB17 : Hid (Below w.heap.size w w16) := Lib.hid (by obtain ⟨fs, _, _, hb⟩ := HO17.out; exact hb)
  go_wp2_with fail
  refine (HA17.out _ HB17.out).mono ?_
  rintro e wa17 ⟨rfl, rfl⟩
  go_wp2_with fail
  refine (ktruth HO17.out (by decide) ⟨#[101, 109, 97, 105, 108, 95, 118, 101, 114, 105, 102, 105, 101, 100]⟩ o17 HE17.out).mono ?_
  rintro e w17 ⟨rfl, hk17⟩
  have HO18 := Lib.hid hk17
  clear hk17 HO17 HB17 HA17
  have HB18 : Hid (Below w.heap.size w w17) := Lib.hid (by obtain ⟨fs, _, _, hb⟩ := HO18.out; exact hb)
  go_wp2_with fail
  refine (HA18.out _ HB18.out).mono ?_
  rintro e wa18 ⟨rfl, rfl⟩
  go_wp2_with fail
  refine (ktruth HO18.out (by decide) ⟨#[112, 104, 111, 110, 101, 95, 110, 117, 109, 98, 101, 114, 95, 118, 101, 114, 105, 102, 105, 101, 100]⟩ o18 HE18.out).mono ?_
  rintro e w18 ⟨rfl, hk18⟩
  have HO19 := Lib.hid hk18
  clear hk18 HO18 HB18 HA18
  have HB19 : Hid (Below w.heap.size w w18) := Lib.hid (by obtain ⟨fs, _, _, hb⟩ := HO19.out; exact hb)
  go_wp2_with fail
  refine (HA19.out _ HB19.out).mono ?_
  rintro e wa19 ⟨rfl, hba19, hhe19⟩
  have HO19a : Hid (KO w wa19 w.heap.size ((((((((((((((((((([] ++ [⟨#[101, 109, 97, 105, 108]⟩]) ++ [⟨#[102, 97, 109, 105, 108, 121, 95, 110, 97, 109, 101]⟩]) ++ [⟨#[103, 101, 110, 100, 101, 114]⟩]) ++ [⟨#[103, 105, 118, 101, 110, 95, 110, 97, 109, 101]⟩]) ++ [⟨#[105, 115, 115]⟩]) ++ [⟨#[106, 116, 105]⟩]) ++ [⟨#[108, 111, 99, 97, 108, 101]⟩]) ++ [⟨#[109, 105, 100, 100, 108, 101, 95, 110, 97, 109, 101]⟩]) ++ [⟨#[110, 97, 109, 101]⟩]) ++ [⟨#[110, 105, 99, 107, 110, 97, 109, 101]⟩]) ++ [⟨#[112, 104, 111, 110, 101, 95, 110, 117, 109, 98, 101, 114]⟩]) ++ [⟨#[112, 105, 99, 116, 117, 114, 101]⟩]) ++ [⟨#[112, 114, 101, 102, 101, 114, 114, 101, 100, 95, 117, 115, 101, 114, 110, 97, 109, 101]⟩]) ++ [⟨#[112, 114, 111, 102, 105, 108, 101]⟩]) ++ [⟨#[115, 117, 98]⟩]) ++ [⟨#[119, 101, 98, 115, 105, 116, 101]⟩]) ++ [⟨#[122, 111, 110, 101, 105, 110, 102, 111]⟩]) ++ [⟨#[101, 109, 97, 105, 108, 95, 118, 101, 114, 105, 102, 105, 101, 100]⟩]) ++ [⟨#[112, 104, 111, 110, 101, 95, 110, 117, 109, 98, 101, 114, 95, 118, 101, 114, 105, 102, 105, 101, 100]⟩]) S) := Lib.hid (by obtain ⟨fs, h1, h2, h3⟩ := HO19.out; exact ⟨fs, h1.below (hba19), h2, h3.trans (hba19.mono h3.size)⟩)
  have HB19a : Hid (Below w.heap.size w wa19) := Lib.hid (by obtain ⟨fs, _, _, hb⟩ := HO19a.out; exact hb)
  clear hba19 hhe19
  go_wp2_with fail
  refine (klist HO19a.out (by decide) ⟨#[97, 117, 100]⟩ A19 n19 c19 (HE19.out _ HB19a.out)).mono ?_
  rintro e w19 ⟨rfl, hk19⟩
  have HO20 := Lib.hid hk19
  clear hk19 HO19 HB19 HA19
  obtain ⟨fs, ⟨AA, nn, cc, hb, hfo, hn, _⟩, hf, hB⟩ := HO20.out
  have hcell : w19.cell? ⟨w.heap.size, 0, none⟩ = some (.slice AA nn cc) := by rw [hb.cell]; rfl
  have HF := Lib.hid (And.intro hn (And.intro hfo (And.intro hf hB)))
  clear hb hn hfo hf hB HO20
  go_wp2
  go_ret
  exact ⟨_, _, _, fs, rfl, HF.out.1, HF.out.2.1, HF.out.2.2.1, HF.out.2.2.2⟩
end Go.Proofs.YtapjbdigpleekaaGreat.Mp
