import Derived.Test.YtapjbdigpleekaaGreatGF
import Derived.Test.YtapjbdigpleekaaGreatGC
import Derived.Stop.Asserts
/- impl.known of four kinds of maps: the known fields that are there; the conditions are on what lies in memory. Printed by gen_mpknown.py. -/
set_option linter.unusedVariables false
set_option linter.unusedSimpArgs false
namespace Go.Proofs.YtapjbdigpleekaaGreat.Mp
open Go.RowKit Go.Proofs.YtapjbdigpleekaaGreat.K Go.Proofs.YtapjbdigpleekaaGreat.Cl
def optL (n : ByteArray) (o : Option PV) : List (ByteArray × PV) := match o with | some x => [(n, x)] | none => []
/-- The fields among those of some names that are there. -/
def pick (S : List (ByteArray × PV)) (M : List ByteArray) : List (ByteArray × PV) := M.flatMap fun n => optL n (lookG S n)
/-- The fields that have been put so far. -/
def KO (w wr : World) (o : Nat) (M : List ByteArray) (S : List (ByteArray × PV)) : Prop := ∃ fs, FOut wr o w.heap.size fs ∧ fs.map fld = pick S M ∧ Below w.heap.size w wr
theorem pick_len (S : List (ByteArray × PV)) : ∀ M : List ByteArray, (pick S M).length ≤ M.length
  | [] => Nat.le_refl _
  | n :: M => by
    have ih := pick_len S M
    have h1 : (optL n (lookG S n)).length ≤ 1 := by
      unfold optL
      split <;> simp
    unfold pick at ih ⊢
    rw [List.flatMap_cons, List.length_append, List.length_cons]
    omega
theorem pick_snoc (S : List (ByteArray × PV)) (M : List ByteArray) (n : ByteArray) : pick S (M ++ [n]) = pick S M ++ optL n (lookG S n) := by unfold pick; simp
theorem mem_pick {S : List (ByteArray × PV)} {M : List ByteArray} {p : ByteArray × PV} : p ∈ pick S M ↔ p.1 ∈ M ∧ lookG S p.1 = some p.2 := by
  unfold pick
  rw [List.mem_flatMap]
  constructor
  · rintro ⟨n, hn, hp⟩
    unfold optL at hp
    split at hp
    · rename_i x e
      rw [List.mem_singleton.1 hp]
      exact ⟨hn, e⟩
    · cases hp
  · rintro ⟨hn, e⟩
    exact ⟨p.1, hn, by unfold optL; rw [e]; simp⟩
theorem KO.len {w wr : World} {o : Nat} {M : List ByteArray} {S : List (ByteArray × PV)} {fs : List Cl.Fd} (h : fs.map fld = pick S M) (hM : M.length < 1000) : fs.length < 1000 := by
  have := pick_len S M
  rw [← h, List.length_map] at this
  omega
def KoP (w : World) (o : Nat) (M : List ByteArray) (S : List (ByteArray × PV)) (e : Ending) (w' : World) : Prop := e = .returned (.tuple #[]) ∧ KO w w' o M S
theorem KO.put {w wr w' : World} {o : Nat} {M : List ByteArray} {S : List (ByteArray × PV)} {fs : List Cl.Fd} {e : Ending} {nm : ByteArray} {pv : PV} {ok : Bool} (hf : fs.map fld = pick S M) (hb : Below w.heap.size w wr) (h : OutP wr o w.heap.size fs nm pv ok e w') (hl : lookG S nm = if ok then some pv else none) : KoP w o (M ++ [nm]) S e w' := by
  obtain ⟨he, hB, fs', hfo, hfs⟩ := h
  refine ⟨he, fs', hfo, ?_, hb.trans hB⟩
  rw [hfs, pick_snoc, hf, hl]
  cases ok <;> rfl
theorem ktext {w wr : World} {o : Nat} {M : List ByteArray} {S : List (ByteArray × PV)} (h : KO w wr o M S) (hM : M.length < 1000) (nm : ByteArray) (x : Option ByteArray) (hl : lookG S nm = x.map PV.txt) :
    Calls Tryz.prog 117 #[.string nm, .string (x.getD ByteArray.empty), .bool x.isSome, .pointer (some ⟨o, 0, none⟩)] wr (KoP w o (M ++ [nm]) S) := by
  obtain ⟨fs, hfo, hf, hb⟩ := h
  cases x with
  | none => exact (ktext_no wr o w.heap.size fs nm _ (.tru false) hfo).mono fun e w' hp => KO.put hf hb hp hl
  | some s => exact (ktext_yes wr o w.heap.size fs nm s hfo (KO.len (w := w) (wr := wr) (o := o) hf hM)).mono fun e w' hp => KO.put hf hb hp hl
theorem ktruth {w wr : World} {o : Nat} {M : List ByteArray} {S : List (ByteArray × PV)} (h : KO w wr o M S) (hM : M.length < 1000) (nm : ByteArray) (x : Option Bool) (hl : lookG S nm = x.map PV.tru) :
    Calls Tryz.prog 119 #[.string nm, .bool (x.getD false), .bool x.isSome, .pointer (some ⟨o, 0, none⟩)] wr (KoP w o (M ++ [nm]) S) := by
  obtain ⟨fs, hfo, hf, hb⟩ := h
  cases x with
  | none => exact (ktruth_no wr o w.heap.size fs nm _ (.tru false) hfo).mono fun e w' hp => KO.put hf hb hp hl
  | some s => exact (ktruth_yes wr o w.heap.size fs nm s hfo (KO.len (w := w) (wr := wr) (o := o) hf hM)).mono fun e w' hp => KO.put hf hb hp hl
/-- A list, or none, as a slice. -/
def LstO (w : World) (A : Option Addr) (n c : Nat) (o : Option PV) : Prop := (A = none ∧ o = none) ∨ ∃ a l, A = some a ∧ o = some (.lst l) ∧ w.ownsRow 0 9 1 (.slice (some a) n c) n (strs l) ∧ l.length ≤ 100000
theorem klist {w wr : World} {o : Nat} {M : List ByteArray} {S : List (ByteArray × PV)} (h : KO w wr o M S) (hM : M.length < 1000) (nm : ByteArray) (A : Option Addr) (n c : Nat) (hl : LstO wr A n c (lookG S nm)) :
    Calls Tryz.prog 118 #[.string nm, .slice A n c, .bool A.isSome, .pointer (some ⟨o, 0, none⟩)] wr (KoP w o (M ++ [nm]) S) := by
  obtain ⟨fs, hfo, hf, hb⟩ := h
  rcases hl with ⟨rfl, hn⟩ | ⟨a, l, rfl, hs, ho, hlen⟩
  · exact (klist_no wr o w.heap.size fs nm _ (.tru false) hfo).mono fun e w' hp => KO.put hf hb hp hn
  · exact (klist_yes wr o w.heap.size fs nm a n c l ho hlen hfo (KO.len (w := w) (wr := wr) (o := o) hf hM)).mono fun e w' hp => KO.put hf hb hp hs
section
variable {k : Nat} {w : World} {B g : Nat} {S : List (ByteArray × PV)} {cs : Array Value} {m : Option Nat} {f : ByteArray × Nat × Nat} {F : Nat}
theorem Parts.txt (h : Parts k w B g S cs m) (hf : f ∈ fldK k) (hs : f.2.2 = 0)
    (ok : ∀ w' p o, Blk w' g (tyK k) cs → cs[f.2.1]? = some (.pointer p) → Txt w' g p o → Calls Tryz.prog F #[.pointer (some ⟨g, 0, none⟩)] w' (AccP o w')) :
    ∃ o, Hid (∀ wr, Below w.heap.size w wr → Calls Tryz.prog F #[.pointer (some ⟨g, 0, none⟩)] wr (AccP o wr)) ∧ Hid (lookG S f.1 = o.map PV.txt) := by
  obtain ⟨u, hu, hc⟩ := h.fld f hf
  rw [hs] at hc
  rcases hc with ⟨e, rfl⟩ | ⟨x, b, e, rfl, hb⟩
  · exact ⟨none, fun wr hB => ok wr none none (h.blk.below hB h.blk.lt) hu (.inl ⟨rfl, rfl⟩), e⟩
  · exact ⟨some x, fun wr hB => ok wr _ (some x) (h.blk.below hB h.blk.lt) hu (.inr ⟨x, b, rfl, rfl, hb.below hB hb.lt, fun e2 => by
      subst e2
      have := h.blk
      unfold Blk at this hb
      rw [hb] at this
      injection this with this
      injection this with _ ht
      exact (tyK_ne k).1 ht.symm⟩), e⟩
theorem Parts.tru (h : Parts k w B g S cs m) (hf : f ∈ fldK k) (hs : f.2.2 = 1)
    (ok : ∀ w' p o, Blk w' g (tyK k) cs → cs[f.2.1]? = some (.pointer p) → Tru w' g p o → Calls Tryz.prog F #[.pointer (some ⟨g, 0, none⟩)] w' (TruP o w')) :
    ∃ o, Hid (∀ wr, Below w.heap.size w wr → Calls Tryz.prog F #[.pointer (some ⟨g, 0, none⟩)] wr (TruP o wr)) ∧ Hid (lookG S f.1 = o.map PV.tru) := by
  obtain ⟨u, hu, hc⟩ := h.fld f hf
  rw [hs] at hc
  rcases hc with ⟨e, rfl⟩ | ⟨x, b, e, rfl, hb⟩
  · exact ⟨none, fun wr hB => ok wr none none (h.blk.below hB h.blk.lt) hu (.inl ⟨rfl, rfl⟩), e⟩
  · exact ⟨some x, fun wr hB => ok wr _ (some x) (h.blk.below hB h.blk.lt) hu (.inr ⟨x, b, rfl, rfl, hb.below hB hb.lt, fun e2 => by
      subst e2
      have := h.blk
      unfold Blk at this hb
      rw [hb] at this
      injection this with this
      injection this with _ ht
      exact (tyK_ne k).2 ht.symm⟩), e⟩
def LstP (A : Option Addr) (n c : Nat) (w : World) (e : Ending) (w' : World) : Prop := e = .returned (.tuple #[.slice A n c, .bool A.isSome]) ∧ Below w.heap.size w w' ∧ w'.heap = w.heap
theorem Parts.lst (h : Parts k w B g S cs m) (hf : f ∈ fldK k) (hs : f.2.2 = 2)
    (ok : ∀ w' A n c, Blk w' g (tyK k) cs → cs[f.2.1]? = some (.slice A n c) → (A = none → n = 0 ∧ c = 0) → Calls Tryz.prog F #[.pointer (some ⟨g, 0, none⟩)] w' (LstP A n c w')) :
    ∃ A n c, Hid (∀ wr, Below w.heap.size w wr → Calls Tryz.prog F #[.pointer (some ⟨g, 0, none⟩)] wr (LstP A n c wr)) ∧ Hid (∀ wr, Below w.heap.size w wr → LstO wr A n c (lookG S f.1)) := by
  obtain ⟨u, hu, hc⟩ := h.fld f hf
  rw [hs] at hc
  rcases hc with ⟨e, rfl⟩ | ⟨l, a, n, c, e, rfl, ho⟩
  · exact ⟨none, 0, 0, fun wr hB => ok wr none 0 0 (h.blk.below hB h.blk.lt) hu (fun _ => ⟨rfl, rfl⟩), fun wr hB => .inl ⟨rfl, e⟩⟩
  · exact ⟨some a, n, c, fun wr hB => ok wr (some a) n c (h.blk.below hB h.blk.lt) hu (fun e => by cases e), fun wr hB => .inr ⟨a, l, rfl, e, own_safe ho (grown_of_below hB (Nat.le_refl _) none) (safe_none w), h.ok _ (lookG_mem e)⟩⟩
end
/-- The known fields that are there come back. -/
def KnownP (S : List (ByteArray × PV)) (M : List ByteArray) (w : World) (e : Ending) (w' : World) : Prop := ∃ A n c fs, e = .returned (.slice A n c) ∧ n = fs.length ∧ FO w' w.heap.size (.slice A n c) fs ∧ fs.map fld = pick S M ∧ Below w.heap.size w w'
/-- The names in the order in which impl.known asks. -/
def ord_jwt : List ByteArray := [⟨#[105, 115, 115]⟩, ⟨#[106, 116, 105]⟩, ⟨#[115, 117, 98]⟩, ⟨#[97, 117, 100]⟩]
set_option maxRecDepth 100000 in
set_option maxHeartbeats 8000000 in
theorem jwt_known {w : World} {B g : Nat} {S : List (ByteArray × PV)} (h : Hd 2 w B g S) :
    Calls Tryz.prog 101 #[.iface 206 (.pointer (some ⟨g, 0, none⟩))] w (KnownP S ord_jwt w) := by
  obtain ⟨cs, m, hp⟩ := h
  obtain ⟨o0, HA0, HE0⟩ := hp.txt (F := 262) (List.mem_of_getElem? (show (fldK 2)[1]? = some (⟨#[105, 115, 115]⟩, 2, 0) from rfl)) rfl (fun w' p o h1 h2 h3 => jwt_Issuer w' g cs p o h1 h2 h3)
  obtain ⟨o1, HA1, HE1⟩ := hp.txt (F := 263) (List.mem_of_getElem? (show (fldK 2)[2]? = some (⟨#[106, 116, 105]⟩, 3, 0) from rfl)) rfl (fun w' p o h1 h2 h3 => jwt_JwtID w' g cs p o h1 h2 h3)
  obtain ⟨o2, HA2, HE2⟩ := hp.txt (F := 268) (List.mem_of_getElem? (show (fldK 2)[3]? = some (⟨#[115, 117, 98]⟩, 4, 0) from rfl)) rfl (fun w' p o h1 h2 h3 => jwt_Subject w' g cs p o h1 h2 h3)
  obtain ⟨A3, n3, c3, HA3, HE3⟩ := hp.lst (F := 258) (List.mem_of_getElem? (show (fldK 2)[0]? = some (⟨#[97, 117, 100]⟩, 1, 2) from rfl)) rfl (fun w' A n c h1 h2 h3 => by
    cases A with
    | none =>
      obtain ⟨rfl, rfl⟩ := h3 rfl
      refine (jwt_Audience_none w' g cs 0 0 h1 h2).mono (fun e w2 h => ?_)
      obtain ⟨he, hw⟩ := h
      subst hw
      exact ⟨he, Below.refl _ _, rfl⟩
    | some a =>
      refine (jwt_Audience_some w' g cs a n c h1 h2).mono (fun e w2 h => ?_)
      obtain ⟨he, hw⟩ := h
      subst hw
      exact ⟨he, Below.refl _ _, rfl⟩)
  have ta0 : ∀ W : World, Sem.run Tryz.prog (Instr.typeAssert (.iface 206 (.pointer (some ⟨g, 0, none⟩))) 80 83 true) W = .ok (.tuple #[.nilIface, .bool false]) W := fun W => run_typeAssert_lacksB Tryz.underlying83 (by kernel_rfl) (by kernel_rfl) _ _ W
  have ta1 : ∀ W : World, Sem.run Tryz.prog (Instr.typeAssert (.iface 206 (.pointer (some ⟨g, 0, none⟩))) 80 90 true) W = .ok (.tuple #[.nilIface, .bool false]) W := fun W => run_typeAssert_lacksB Tryz.underlying90 (by kernel_rfl) (by kernel_rfl) _ _ W
  have ta2 : ∀ W : World, Sem.run Tryz.prog (Instr.typeAssert (.iface 206 (.pointer (some ⟨g, 0, none⟩))) 80 115 true) W = .ok (.tuple #[.nilIface, .bool false]) W := fun W => run_typeAssert_lacksB Tryz.underlying115 (by kernel_rfl) (by kernel_rfl) _ _ W
  have ta3 : ∀ W : World, Sem.run Tryz.prog (Instr.typeAssert (.iface 206 (.pointer (some ⟨g, 0, none⟩))) 80 97 true) W = .ok (.tuple #[.iface 206 (.pointer (some ⟨g, 0, none⟩)), .bool true]) W := fun W => run_typeAssert_hasB Tryz.underlying97 (by kernel_rfl) _ _ W
  have hna0 : ∀ W : World, Sem.run Tryz.prog (nilAhead 399 206 (.pointer (some ⟨g, 0, none⟩)) "Issuer") W = .ok (some false) W := fun W => by kernel_rfl
  have hms0 : ∀ W : World, (method 399 206 (.pointer (some ⟨g, 0, none⟩)) "Issuer").run Tryz.prog W = .ok (262, (.pointer (some ⟨g, 0, none⟩))) W := fun W => by kernel_rfl
  have hna1 : ∀ W : World, Sem.run Tryz.prog (nilAhead 399 206 (.pointer (some ⟨g, 0, none⟩)) "JwtID") W = .ok (some false) W := fun W => by kernel_rfl
  have hms1 : ∀ W : World, (method 399 206 (.pointer (some ⟨g, 0, none⟩)) "JwtID").run Tryz.prog W = .ok (263, (.pointer (some ⟨g, 0, none⟩))) W := fun W => by kernel_rfl
  have hna2 : ∀ W : World, Sem.run Tryz.prog (nilAhead 399 206 (.pointer (some ⟨g, 0, none⟩)) "Subject") W = .ok (some false) W := fun W => by kernel_rfl
  have hms2 : ∀ W : World, (method 399 206 (.pointer (some ⟨g, 0, none⟩)) "Subject").run Tryz.prog W = .ok (268, (.pointer (some ⟨g, 0, none⟩))) W := fun W => by kernel_rfl
  have hna3 : ∀ W : World, Sem.run Tryz.prog (nilAhead 399 206 (.pointer (some ⟨g, 0, none⟩)) "Audience") W = .ok (some false) W := fun W => by kernel_rfl
  have hms3 : ∀ W : World, (method 399 206 (.pointer (some ⟨g, 0, none⟩)) "Audience").run Tryz.prog W = .ok (258, (.pointer (some ⟨g, 0, none⟩))) W := fun W => by kernel_rfl
  have HO0 : Hid (KO w (w.alloc (.cells #[.slice none 0 0] 22)) w.heap.size [] S) := Lib.hid ⟨[], ⟨none, 0, 0, Blk.new w _ _, ⟨World.ownsRow_nil _ _ _ _, fun f hf => by cases hf⟩, rfl, Nat.le_refl _⟩, rfl, below_alloc' (Below.refl _ _) _⟩
  clear hp
  go_enter Tryz.func101, Tryz.ntmps101
  have HB0 : Hid (Below w.heap.size w (w.alloc (.cells #[.slice none 0 0] 22))) := Lib.hid (by obtain ⟨fs, _, _, hb⟩ := HO0.out; exact hb)
  go_wp2_with fail
  refine (HA0.out _ HB0.out).mono ?_
  rintro e wa0 ⟨rfl, rfl⟩
  go_wp2_with fail
  refine (ktext HO0.out (by decide) ⟨#[105, 115, 115]⟩ o0 HE0.out).mono ?_
  rintro e w0 ⟨rfl, hk0⟩
  have HO1 := Lib.hid hk0
  clear hk0 HO0 HB0 HA0
  have HB1 : Hid (Below w.heap.size w w0) := Lib.hid (by obtain ⟨fs, _, _, hb⟩ := HO1.out; exact hb)
  go_wp2_with fail
  refine (HA1.out _ HB1.out).mono ?_
  rintro e wa1 ⟨rfl, rfl⟩
  go_wp2_with fail
  refine (ktext HO1.out (by decide) ⟨#[106, 116, 105]⟩ o1 HE1.out).mono ?_
  rintro e w1 ⟨rfl, hk1⟩
  have HO2 := Lib.hid hk1
  clear hk1 HO1 HB1 HA1
  have HB2 : Hid (Below w.heap.size w w1) := Lib.hid (by obtain ⟨fs, _, _, hb⟩ := HO2.out; exact hb)
  go_wp2_with fail
  refine (HA2.out _ HB2.out).mono ?_
  rintro e wa2 ⟨rfl, rfl⟩
  go_wp2_with fail
  refine (ktext HO2.out (by decide) ⟨#[115, 117, 98]⟩ o2 HE2.out).mono ?_
  rintro e w2 ⟨rfl, hk2⟩
  have HO3 := Lib.hid hk2
  clear hk2 HO2 HB2 HA2
  have HB3 : Hid (Below w.heap.size w w2) := Lib.hid (by obtain ⟨fs, _, _, hb⟩ := HO3.out; exact hb)
  go_wp2_with fail
  refine (HA3.out _ HB3.out).mono ?_
  rintro e wa3 ⟨rfl, hba3, hhe3⟩
  have HO3a : Hid (KO w wa3 w.heap.size ((([] ++ [⟨#[105, 115, 115]⟩]) ++ [⟨#[106, 116, 105]⟩]) ++ [⟨#[115, 117, 98]⟩]) S) := Lib.hid (by obtain ⟨fs, h1, h2, h3⟩ := HO3.out; exact ⟨fs, h1.below (hba3), h2, h3.trans (hba3.mono h3.size)⟩)
  have HB3a : Hid (Below w.heap.size w wa3) := Lib.hid (by obtain ⟨fs, _, _, hb⟩ := HO3a.out; exact hb)
  clear hba3 hhe3
  go_wp2_with fail
  refine (klist HO3a.out (by decide) ⟨#[97, 117, 100]⟩ A3 n3 c3 (HE3.out _ HB3a.out)).mono ?_
  rintro e w3 ⟨rfl, hk3⟩
  have HO4 := Lib.hid hk3
  clear hk3 HO3 HB3 HA3
  obtain ⟨fs, ⟨AA, nn, cc, hb, hfo, hn, _⟩, hf, hB⟩ := HO4.out
  have hcell : w3.cell? ⟨w.heap.size, 0, none⟩ = some (.slice AA nn cc) := by rw [hb.cell]; rfl
  have HF := Lib.hid (And.intro hn (And.intro hfo (And.intro hf hB)))
  clear hb hn hfo hf hB HO4
  go_wp2
  go_ret
  exact ⟨_, _, _, fs, rfl, HF.out.1, HF.out.2.1, HF.out.2.2.1, HF.out.2.2.2⟩
end Go.Proofs.YtapjbdigpleekaaGreat.Mp

/- impl.known of another kind of maps; the conditions are on what lies in memory. Printed by gen_mpknown.py. -/
set_option linter.unusedVariables false
set_option linter.unusedSimpArgs false
namespace Go.Proofs.YtapjbdigpleekaaGreat.Mp
open Go.RowKit Go.Proofs.YtapjbdigpleekaaGreat.K Go.Proofs.YtapjbdigpleekaaGreat.Cl
/-- The names in the order in which impl.known asks. -/
def ord_jws : List ByteArray := [⟨#[99, 116, 121]⟩, ⟨#[106, 107, 117]⟩, ⟨#[107, 105, 100]⟩, ⟨#[116, 121, 112]⟩, ⟨#[120, 53, 116]⟩, ⟨#[120, 53, 116, 35, 83, 50, 53, 54]⟩, ⟨#[120, 53, 117]⟩, ⟨#[99, 114, 105, 116]⟩]
set_option maxRecDepth 100000 in
set_option maxHeartbeats 8000000 in
theorem jws_known {w : World} {B g : Nat} {S : List (ByteArray × PV)} (h : Hd 0 w B g S) :
    Calls Tryz.prog 101 #[.iface 186 (.pointer (some ⟨g, 0, none⟩))] w (KnownP S ord_jws w) := by
  obtain ⟨cs, m, hp⟩ := h
  obtain ⟨o0, HA0, HE0⟩ := hp.txt (F := 166) (List.mem_of_getElem? (show (fldK 0)[0]? = some (⟨#[99, 116, 121]⟩, 2, 0) from rfl)) rfl (fun w' p o h1 h2 h3 => jws_ContentType w' g cs p o h1 h2 h3)
  obtain ⟨o1, HA1, HE1⟩ := hp.txt (F := 171) (List.mem_of_getElem? (show (fldK 0)[2]? = some (⟨#[106, 107, 117]⟩, 4, 0) from rfl)) rfl (fun w' p o h1 h2 h3 => jws_JWKSetURL w' g cs p o h1 h2 h3)
  obtain ⟨o2, HA2, HE2⟩ := hp.txt (F := 172) (List.mem_of_getElem? (show (fldK 0)[3]? = some (⟨#[107, 105, 100]⟩, 5, 0) from rfl)) rfl (fun w' p o h1 h2 h3 => jws_KeyID w' g cs p o h1 h2 h3)
  obtain ⟨o3, HA3, HE3⟩ := hp.txt (F := 177) (List.mem_of_getElem? (show (fldK 0)[4]? = some (⟨#[116, 121, 112]⟩, 6, 0) from rfl)) rfl (fun w' p o h1 h2 h3 => jws_Type w' g cs p o h1 h2 h3)
  obtain ⟨o4, HA4, HE4⟩ := hp.txt (F := 178) (List.mem_of_getElem? (show (fldK 0)[5]? = some (⟨#[120, 53, 116]⟩, 7, 0) from rfl)) rfl (fun w' p o h1 h2 h3 => jws_X509CertThumbprint w' g cs p o h1 h2 h3)
  obtain ⟨o5, HA5, HE5⟩ := hp.txt (F := 179) (List.mem_of_getElem? (show (fldK 0)[6]? = some (⟨#[120, 53, 116, 35, 83, 50, 53, 54]⟩, 8, 0) from rfl)) rfl (fun w' p o h1 h2 h3 => jws_X509CertThumbprintS256 w' g cs p o h1 h2 h3)
  obtain ⟨o6, HA6, HE6⟩ := hp.txt (F := 180) (List.mem_of_getElem? (show (fldK 0)[7]? = some (⟨#[120, 53, 117]⟩, 9, 0) from rfl)) rfl (fun w' p o h1 h2 h3 => jws_X509URL w' g cs p o h1 h2 h3)
  obtain ⟨A7, n7, c7, HA7, HE7⟩ := hp.lst (F := 168) (List.mem_of_getElem? (show (fldK 0)[1]? = some (⟨#[99, 114, 105, 116]⟩, 3, 2) from rfl)) rfl (fun w' A n c h1 h2 _ => (jws_Critical w' g cs A n c h1 h2).mono (fun e w2 h => by
    obtain ⟨he, q, hw⟩ := h
    subst hw
    exact ⟨he, K.below_drewN (Below.refl _ _) q, rfl⟩))
  have ta0 : ∀ W : World, Sem.run Tryz.prog (Instr.typeAssert (.iface 186 (.pointer (some ⟨g, 0, none⟩))) 80 83 true) W = .ok (.tuple #[.iface 186 (.pointer (some ⟨g, 0, none⟩)), .bool true]) W := fun W => run_typeAssert_hasB Tryz.underlying83 (by kernel_rfl) _ _ W
  have hna0 : ∀ W : World, Sem.run Tryz.prog (nilAhead 399 186 (.pointer (some ⟨g, 0, none⟩)) "ContentType") W = .ok (some false) W := fun W => by kernel_rfl
  have hms0 : ∀ W : World, (method 399 186 (.pointer (some ⟨g, 0, none⟩)) "ContentType").run Tryz.prog W = .ok (166, (.pointer (some ⟨g, 0, none⟩))) W := fun W => by kernel_rfl
  have hna1 : ∀ W : World, Sem.run Tryz.prog (nilAhead 399 186 (.pointer (some ⟨g, 0, none⟩)) "JWKSetURL") W = .ok (some false) W := fun W => by kernel_rfl
  have hms1 : ∀ W : World, (method 399 186 (.pointer (some ⟨g, 0, none⟩)) "JWKSetURL").run Tryz.prog W = .ok (171, (.pointer (some ⟨g, 0, none⟩))) W := fun W => by kernel_rfl
  have hna2 : ∀ W : World, Sem.run Tryz.prog (nilAhead 399 186 (.pointer (some ⟨g, 0, none⟩)) "KeyID") W = .ok (some false) W := fun W => by kernel_rfl
  have hms2 : ∀ W : World, (method 399 186 (.pointer (some ⟨g, 0, none⟩)) "KeyID").run Tryz.prog W = .ok (172, (.pointer (some ⟨g, 0, none⟩))) W := fun W => by kernel_rfl
  have hna3 : ∀ W : World, Sem.run Tryz.prog (nilAhead 399 186 (.pointer (some ⟨g, 0, none⟩)) "Type") W = .ok (some false) W := fun W => by kernel_rfl
  have hms3 : ∀ W : World, (method 399 186 (.pointer (some ⟨g, 0, none⟩)) "Type").run Tryz.prog W = .ok (177, (.pointer (some ⟨g, 0, none⟩))) W := fun W => by kernel_rfl
  have hna4 : ∀ W : World, Sem.run Tryz.prog (nilAhead 399 186 (.pointer (some ⟨g, 0, none⟩)) "X509CertThumbprint") W = .ok (some false) W := fun W => by kernel_rfl
  have hms4 : ∀ W : World, (method 399 186 (.pointer (some ⟨g, 0, none⟩)) "X509CertThumbprint").run Tryz.prog W = .ok (178, (.pointer (some ⟨g, 0, none⟩))) W := fun W => by kernel_rfl
  have hna5 : ∀ W : World, Sem.run Tryz.prog (nilAhead 399 186 (.pointer (some ⟨g, 0, none⟩)) "X509CertThumbprintS256") W = .ok (some false) W := fun W => by kernel_rfl
  have hms5 : ∀ W : World, (method 399 186 (.pointer (some ⟨g, 0, none⟩)) "X509CertThumbprintS256").run Tryz.prog W = .ok (179, (.pointer (some ⟨g, 0, none⟩))) W := fun W => by kernel_rfl
  have hna6 : ∀ W : World, Sem.run Tryz.prog (nilAhead 399 186 (.pointer (some ⟨g, 0, none⟩)) "X509URL") W = .ok (some false) W := fun W => by kernel_rfl
  have hms6 : ∀ W : World, (method 399 186 (.pointer (some ⟨g, 0, none⟩)) "X509URL").run Tryz.prog W = .ok (180, (.pointer (some ⟨g, 0, none⟩))) W := fun W => by kernel_rfl
  have hna7 : ∀ W : World, Sem.run Tryz.prog (nilAhead 399 186 (.pointer (some ⟨g, 0, none⟩)) "Critical") W = .ok (some false) W := fun W => by kernel_rfl
  have hms7 : ∀ W : World, (method 399 186 (.pointer (some ⟨g, 0, none⟩)) "Critical").run Tryz.prog W = .ok (168, (.pointer (some ⟨g, 0, none⟩))) W := fun W => by kernel_rfl
  have HO0 : Hid (KO w (w.alloc (.cells #[.slice none 0 0] 22)) w.heap.size [] S) := Lib.hid ⟨[], ⟨none, 0, 0, Blk.new w _ _, ⟨World.ownsRow_nil _ _ _ _, fun f hf => by cases hf⟩, rfl, Nat.le_refl _⟩, rfl, below_alloc' (Below.refl _ _) _⟩
  clear hp
  go_enter Tryz.func101, Tryz.ntmps101
  have HB0 : Hid (Below w.heap.size w (w.alloc (.cells #[.slice none 0 0] 22))) := Lib.hid (by obtain ⟨fs, _, _, hb⟩ := HO0.out; exact hb)
  go_wp2_with fail
  refine (HA0.out _ HB0.out).mono ?_
  rintro e wa0 ⟨rfl, rfl⟩
  go_wp2_with fail
  refine (ktext HO0.out (by decide) ⟨#[99, 116, 121]⟩ o0 HE0.out).mono ?_
  rintro e w0 ⟨rfl, hk0⟩
  have HO1 := Lib.hid hk0
  clear hk0 HO0 HB0 HA0
  have HB1 : Hid (Below w.heap.size w w0) := Lib.hid (by obtain ⟨fs, _, _, hb⟩ := HO1.out; exact hb)
  go_wp2_with fail
  refine (HA1.out _ HB1.out).mono ?_
  rintro e wa1 ⟨rfl, rfl⟩
  go_wp2_with fail
  refine (ktext HO1.out (by decide) ⟨#[106, 107, 117]⟩ o1 HE1.out).mono ?_
  rintro e w1 ⟨rfl, hk1⟩
  have HO2 := Lib.hid hk1
  clear hk1 HO1 HB1 HA1
  have HB2 : Hid (Below w.heap.size w w1) := Lib.hid (by obtain ⟨fs, _, _, hb⟩ := HO2.out; exact hb)
  go_wp2_with fail
  refine (HA2.out _ HB2.out).mono ?_
  rintro e wa2 ⟨rfl, rfl⟩
  go_wp2_with fail
  refine (ktext HO2.out (by decide) ⟨#[107, 105, 100]⟩ o2 HE2.out).mono ?_
  rintro e w2 ⟨rfl, hk2⟩
  have HO3 := Lib.hid hk2
  clear hk2 HO2 HB2 HA2
  have HB3 : Hid (Below w.heap.size w w2) := Lib.hid (by obtain ⟨fs, _, _, hb⟩ := HO3.out; exact hb)
  go_wp2_with fail
  refine (HA3.out _ HB3.out).mono ?_
  rintro e wa3 ⟨rfl, rfl⟩
  go_wp2_with fail
  refine (ktext HO3.out (by decide) ⟨#[116, 121, 112]⟩ o3 HE3.out).mono ?_
  rintro e w3 ⟨rfl, hk3⟩
  have HO4 := Lib.hid hk3
  clear hk3 HO3 HB3 HA3
  have HB4 : Hid (Below w.heap.size w w3) := Lib.hid (by obtain ⟨fs, _, _, hb⟩ := HO4.out; exact hb)
  go_wp2_with fail
  refine (HA4.out _ HB4.out).mono ?_
  rintro e wa4 ⟨rfl, rfl⟩
  go_wp2_with fail
  refine (ktext HO4.out (by decide) ⟨#[120, 53, 116]⟩ o4 HE4.out).mono ?_
  rintro e w4 ⟨rfl, hk4⟩
  have HO5 := Lib.hid hk4
  clear hk4 HO4 HB4 HA4
  have HB5 : Hid (Below w.heap.size w w4) := Lib.hid (by obtain ⟨fs, _, _, hb⟩ := HO5.out; exact hb)
  go_wp2_with fail
  refine (HA5.out _ HB5.out).mono ?_
  rintro e wa5 ⟨rfl, rfl⟩
  go_wp2_with fail
  refine (ktext HO5.out (by decide) ⟨#[120, 53, 116, 35, 83, 50, 53, 54]⟩ o5 HE5.out).mono ?_
  rintro e w5 ⟨rfl, hk5⟩
  have HO6 := Lib.hid hk5
  clear hk5 HO5 HB5 HA5
  have HB6 : Hid (Below w.heap.size w w5) := Lib.hid (by obtain ⟨fs, _, _, hb⟩ := HO6.out; exact hb)
  go_wp2_with fail
  refine (HA6.out _ HB6.out).mono ?_
  rintro e wa6 ⟨rfl, rfl⟩
  go_wp2_with fail
  refine (ktext HO6.out (by decide) ⟨#[120, 53, 117]⟩ o6 HE6.out).mono ?_
  rintro e w6 ⟨rfl, hk6⟩
  have HO7 := Lib.hid hk6
  clear hk6 HO6 HB6 HA6
  have HB7 : Hid (Below w.heap.size w w6) := Lib.hid (by obtain ⟨fs, _, _, hb⟩ := HO7.out; exact hb)
  go_wp2_with fail
  refine (HA7.out _ HB7.out).mono ?_
  rintro e wa7 ⟨rfl, hba7, hhe7⟩
  have HO7a : Hid (KO w wa7 w.heap.size ((((((([] ++ [⟨#[99, 116, 121]⟩]) ++ [⟨#[106, 107, 117]⟩]) ++ [⟨#[107, 105, 100]⟩]) ++ [⟨#[116, 121, 112]⟩]) ++ [⟨#[120, 53, 116]⟩]) ++ [⟨#[120, 53, 116, 35, 83, 50, 53, 54]⟩]) ++ [⟨#[120, 53, 117]⟩]) S) := Lib.hid (by obtain ⟨fs, h1, h2, h3⟩ := HO7.out; exact ⟨fs, h1.below (hba7), h2, h3.trans (hba7.mono h3.size)⟩)
  have HB7a : Hid (Below w.heap.size w wa7) := Lib.hid (by obtain ⟨fs, _, _, hb⟩ := HO7a.out; exact hb)
  clear hba7 hhe7
  go_wp2_with fail
  refine (klist HO7a.out (by decide) ⟨#[99, 114, 105, 116]⟩ A7 n7 c7 (HE7.out _ HB7a.out)).mono ?_
  rintro e w7 ⟨rfl, hk7⟩
  have HO8 := Lib.hid hk7
  clear hk7 HO7 HB7 HA7
  obtain ⟨fs, ⟨AA, nn, cc, hb, hfo, hn, _⟩, hf, hB⟩ := HO8.out
  have hcell : w7.cell? ⟨w.heap.size, 0, none⟩ = some (.slice AA nn cc) := by rw [hb.cell]; rfl
  have HF := Lib.hid (And.intro hn (And.intro hfo (And.intro hf hB)))
  clear hb hn hfo hf hB HO8
  go_wp2
  go_ret
  exact ⟨_, _, _, fs, rfl, HF.out.1, HF.out.2.1, HF.out.2.2.1, HF.out.2.2.2⟩
end Go.Proofs.YtapjbdigpleekaaGreat.Mp
