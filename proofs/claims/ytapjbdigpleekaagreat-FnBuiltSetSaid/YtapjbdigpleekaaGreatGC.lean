import Derived.Test.YtapjbdigpleekaaGreatGB
import Derived.BigQuiet
import Derived.Test.YtapjbdigpleekaaGreatGA
/- The accessors of texts and truth values of the four kinds of maps: what their cell tells; the conditions are on what lies in memory. Printed by gen_mpacc.py. -/
set_option linter.unusedVariables false
set_option linter.unusedSimpArgs false
namespace Go.Proofs.YtapjbdigpleekaaGreat.Mp
open Go.RowKit Go.Proofs.YtapjbdigpleekaaGreat.K Go.Proofs.YtapjbdigpleekaaGreat.Cl
/-- A text, or none, as an accessor tells it. -/
def AccP (o : Option ByteArray) (w : World) (e : Ending) (w' : World) : Prop := e = .returned (.tuple #[.string (o.getD ByteArray.empty), .bool o.isSome]) ∧ w' = w
/-- A truth value, or none, behind a pointer. -/
def Tru (w : World) (g : Nat) (p : Option Addr) (o : Option Bool) : Prop := (o = none ∧ p = none) ∨ ∃ x b, o = some x ∧ p = some ⟨b, 0, none⟩ ∧ Blk w b 4 #[.bool x] ∧ b ≠ g
def TruP (o : Option Bool) (w : World) (e : Ending) (w' : World) : Prop := e = .returned (.tuple #[.bool (o.getD false), .bool o.isSome]) ∧ w' = w
theorem jws_ContentType (w : World) (g : Nat) (cs : Array Value) (p : Option Addr) (o : Option ByteArray) (hb : Blk w g 191 cs) (hp : cs[2]? = some (.pointer p)) (hx : Txt w g p o) :
    Calls Tryz.prog 166 #[.pointer (some ⟨g, 0, none⟩)] w (AccP o w) := by
  have hc : w.cell? ⟨g, 2, none⟩ = some (.pointer p) := by rw [hb.cell]; exact hp
  clear hb hp
  rcases hx with ⟨rfl, rfl⟩ | ⟨x, b, rfl, rfl, hB, _⟩
  · go_enter Tryz.func166, Tryz.ntmps166
    go_wp2
    go_ret2
    exact ⟨rfl, rfl⟩
  · have hx : w.cell? ⟨b, 0, none⟩ = some (.string x) := by rw [hB.cell]; rfl
    clear hB
    go_enter Tryz.func166, Tryz.ntmps166
    go_wp2
    go_ret2
    exact ⟨rfl, rfl⟩
theorem jws_JWKSetURL (w : World) (g : Nat) (cs : Array Value) (p : Option Addr) (o : Option ByteArray) (hb : Blk w g 191 cs) (hp : cs[4]? = some (.pointer p)) (hx : Txt w g p o) :
    Calls Tryz.prog 171 #[.pointer (some ⟨g, 0, none⟩)] w (AccP o w) := by
  have hc : w.cell? ⟨g, 4, none⟩ = some (.pointer p) := by rw [hb.cell]; exact hp
  clear hb hp
  rcases hx with ⟨rfl, rfl⟩ | ⟨x, b, rfl, rfl, hB, _⟩
  · go_enter Tryz.func171, Tryz.ntmps171
    go_wp2
    go_ret2
    exact ⟨rfl, rfl⟩
  · have hx : w.cell? ⟨b, 0, none⟩ = some (.string x) := by rw [hB.cell]; rfl
    clear hB
    go_enter Tryz.func171, Tryz.ntmps171
    go_wp2
    go_ret2
    exact ⟨rfl, rfl⟩
theorem jws_KeyID (w : World) (g : Nat) (cs : Array Value) (p : Option Addr) (o : Option ByteArray) (hb : Blk w g 191 cs) (hp : cs[5]? = some (.pointer p)) (hx : Txt w g p o) :
    Calls Tryz.prog 172 #[.pointer (some ⟨g, 0, none⟩)] w (AccP o w) := by
  have hc : w.cell? ⟨g, 5, none⟩ = some (.pointer p) := by rw [hb.cell]; exact hp
  clear hb hp
  rcases hx with ⟨rfl, rfl⟩ | ⟨x, b, rfl, rfl, hB, _⟩
  · go_enter Tryz.func172, Tryz.ntmps172
    go_wp2
    go_ret2
    exact ⟨rfl, rfl⟩
  · have hx : w.cell? ⟨b, 0, none⟩ = some (.string x) := by rw [hB.cell]; rfl
    clear hB
    go_enter Tryz.func172, Tryz.ntmps172
    go_wp2
    go_ret2
    exact ⟨rfl, rfl⟩
theorem jws_Type (w : World) (g : Nat) (cs : Array Value) (p : Option Addr) (o : Option ByteArray) (hb : Blk w g 191 cs) (hp : cs[6]? = some (.pointer p)) (hx : Txt w g p o) :
    Calls Tryz.prog 177 #[.pointer (some ⟨g, 0, none⟩)] w (AccP o w) := by
  have hc : w.cell? ⟨g, 6, none⟩ = some (.pointer p) := by rw [hb.cell]; exact hp
  clear hb hp
  rcases hx with ⟨rfl, rfl⟩ | ⟨x, b, rfl, rfl, hB, _⟩
  · go_enter Tryz.func177, Tryz.ntmps177
    go_wp2
    go_ret2
    exact ⟨rfl, rfl⟩
  · have hx : w.cell? ⟨b, 0, none⟩ = some (.string x) := by rw [hB.cell]; rfl
    clear hB
    go_enter Tryz.func177, Tryz.ntmps177
    go_wp2
    go_ret2
    exact ⟨rfl, rfl⟩
theorem jws_X509CertThumbprint (w : World) (g : Nat) (cs : Array Value) (p : Option Addr) (o : Option ByteArray) (hb : Blk w g 191 cs) (hp : cs[7]? = some (.pointer p)) (hx : Txt w g p o) :
    Calls Tryz.prog 178 #[.pointer (some ⟨g, 0, none⟩)] w (AccP o w) := by
  have hc : w.cell? ⟨g, 7, none⟩ = some (.pointer p) := by rw [hb.cell]; exact hp
  clear hb hp
  rcases hx with ⟨rfl, rfl⟩ | ⟨x, b, rfl, rfl, hB, _⟩
  · go_enter Tryz.func178, Tryz.ntmps178
    go_wp2
    go_ret2
    exact ⟨rfl, rfl⟩
  · have hx : w.cell? ⟨b, 0, none⟩ = some (.string x) := by rw [hB.cell]; rfl
    clear hB
    go_enter Tryz.func178, Tryz.ntmps178
    go_wp2
    go_ret2
    exact ⟨rfl, rfl⟩
theorem jws_X509CertThumbprintS256 (w : World) (g : Nat) (cs : Array Value) (p : Option Addr) (o : Option ByteArray) (hb : Blk w g 191 cs) (hp : cs[8]? = some (.pointer p)) (hx : Txt w g p o) :
    Calls Tryz.prog 179 #[.pointer (some ⟨g, 0, none⟩)] w (AccP o w) := by
  have hc : w.cell? ⟨g, 8, none⟩ = some (.pointer p) := by rw [hb.cell]; exact hp
  clear hb hp
  rcases hx with ⟨rfl, rfl⟩ | ⟨x, b, rfl, rfl, hB, _⟩
  · go_enter Tryz.func179, Tryz.ntmps179
    go_wp2
    go_ret2
    exact ⟨rfl, rfl⟩
  · have hx : w.cell? ⟨b, 0, none⟩ = some (.string x) := by rw [hB.cell]; rfl
    clear hB
    go_enter Tryz.func179, Tryz.ntmps179
    go_wp2
    go_ret2
    exact ⟨rfl, rfl⟩
theorem jws_X509URL (w : World) (g : Nat) (cs : Array Value) (p : Option Addr) (o : Option ByteArray) (hb : Blk w g 191 cs) (hp : cs[9]? = some (.pointer p)) (hx : Txt w g p o) :
    Calls Tryz.prog 180 #[.pointer (some ⟨g, 0, none⟩)] w (AccP o w) := by
  have hc : w.cell? ⟨g, 9, none⟩ = some (.pointer p) := by rw [hb.cell]; exact hp
  clear hb hp
  rcases hx with ⟨rfl, rfl⟩ | ⟨x, b, rfl, rfl, hB, _⟩
  · go_enter Tryz.func180, Tryz.ntmps180
    go_wp2
    go_ret2
    exact ⟨rfl, rfl⟩
  · have hx : w.cell? ⟨b, 0, none⟩ = some (.string x) := by rw [hB.cell]; rfl
    clear hB
    go_enter Tryz.func180, Tryz.ntmps180
    go_wp2
    go_ret2
    exact ⟨rfl, rfl⟩
theorem jwe_ContentType (w : World) (g : Nat) (cs : Array Value) (p : Option Addr) (o : Option ByteArray) (hb : Blk w g 198 cs) (hp : cs[5]? = some (.pointer p)) (hx : Txt w g p o) :
    Calls Tryz.prog 203 #[.pointer (some ⟨g, 0, none⟩)] w (AccP o w) := by
  have hc : w.cell? ⟨g, 5, none⟩ = some (.pointer p) := by rw [hb.cell]; exact hp
  clear hb hp
  rcases hx with ⟨rfl, rfl⟩ | ⟨x, b, rfl, rfl, hB, _⟩
  · go_enter Tryz.func203, Tryz.ntmps203
    go_wp2
    go_ret2
    exact ⟨rfl, rfl⟩
  · have hx : w.cell? ⟨b, 0, none⟩ = some (.string x) := by rw [hB.cell]; rfl
    clear hB
    go_enter Tryz.func203, Tryz.ntmps203
    go_wp2
    go_ret2
    exact ⟨rfl, rfl⟩
theorem jwe_JWKSetURL (w : World) (g : Nat) (cs : Array Value) (p : Option Addr) (o : Option ByteArray) (hb : Blk w g 198 cs) (hp : cs[7]? = some (.pointer p)) (hx : Txt w g p o) :
    Calls Tryz.prog 208 #[.pointer (some ⟨g, 0, none⟩)] w (AccP o w) := by
  have hc : w.cell? ⟨g, 7, none⟩ = some (.pointer p) := by rw [hb.cell]; exact hp
  clear hb hp
  rcases hx with ⟨rfl, rfl⟩ | ⟨x, b, rfl, rfl, hB, _⟩
  · go_enter Tryz.func208, Tryz.ntmps208
    go_wp2
    go_ret2
    exact ⟨rfl, rfl⟩
  · have hx : w.cell? ⟨b, 0, none⟩ = some (.string x) := by rw [hB.cell]; rfl
    clear hB
    go_enter Tryz.func208, Tryz.ntmps208
    go_wp2
    go_ret2
    exact ⟨rfl, rfl⟩
theorem jwe_KeyID (w : World) (g : Nat) (cs : Array Value) (p : Option Addr) (o : Option ByteArray) (hb : Blk w g 198 cs) (hp : cs[8]? = some (.pointer p)) (hx : Txt w g p o) :
    Calls Tryz.prog 209 #[.pointer (some ⟨g, 0, none⟩)] w (AccP o w) := by
  have hc : w.cell? ⟨g, 8, none⟩ = some (.pointer p) := by rw [hb.cell]; exact hp
  clear hb hp
  rcases hx with ⟨rfl, rfl⟩ | ⟨x, b, rfl, rfl, hB, _⟩
  · go_enter Tryz.func209, Tryz.ntmps209
    go_wp2
    go_ret2
    exact ⟨rfl, rfl⟩
  · have hx : w.cell? ⟨b, 0, none⟩ = some (.string x) := by rw [hB.cell]; rfl
    clear hB
    go_enter Tryz.func209, Tryz.ntmps209
    go_wp2
    go_ret2
    exact ⟨rfl, rfl⟩
theorem jwe_Type (w : World) (g : Nat) (cs : Array Value) (p : Option Addr) (o : Option ByteArray) (hb : Blk w g 198 cs) (hp : cs[9]? = some (.pointer p)) (hx : Txt w g p o) :
    Calls Tryz.prog 214 #[.pointer (some ⟨g, 0, none⟩)] w (AccP o w) := by
  have hc : w.cell? ⟨g, 9, none⟩ = some (.pointer p) := by rw [hb.cell]; exact hp
  clear hb hp
  rcases hx with ⟨rfl, rfl⟩ | ⟨x, b, rfl, rfl, hB, _⟩
  · go_enter Tryz.func214, Tryz.ntmps214
    go_wp2
    go_ret2
    exact ⟨rfl, rfl⟩
  · have hx : w.cell? ⟨b, 0, none⟩ = some (.string x) := by rw [hB.cell]; rfl
    clear hB
    go_enter Tryz.func214, Tryz.ntmps214
    go_wp2
    go_ret2
    exact ⟨rfl, rfl⟩
theorem jwe_X509CertThumbprint (w : World) (g : Nat) (cs : Array Value) (p : Option Addr) (o : Option ByteArray) (hb : Blk w g 198 cs) (hp : cs[10]? = some (.pointer p)) (hx : Txt w g p o) :
    Calls Tryz.prog 215 #[.pointer (some ⟨g, 0, none⟩)] w (AccP o w) := by
  have hc : w.cell? ⟨g, 10, none⟩ = some (.pointer p) := by rw [hb.cell]; exact hp
  clear hb hp
  rcases hx with ⟨rfl, rfl⟩ | ⟨x, b, rfl, rfl, hB, _⟩
  · go_enter Tryz.func215, Tryz.ntmps215
    go_wp2
    go_ret2
    exact ⟨rfl, rfl⟩
  · have hx : w.cell? ⟨b, 0, none⟩ = some (.string x) := by rw [hB.cell]; rfl
    clear hB
    go_enter Tryz.func215, Tryz.ntmps215
    go_wp2
    go_ret2
    exact ⟨rfl, rfl⟩
theorem jwe_X509CertThumbprintS256 (w : World) (g : Nat) (cs : Array Value) (p : Option Addr) (o : Option ByteArray) (hb : Blk w g 198 cs) (hp : cs[11]? = some (.pointer p)) (hx : Txt w g p o) :
    Calls Tryz.prog 216 #[.pointer (some ⟨g, 0, none⟩)] w (AccP o w) := by
  have hc : w.cell? ⟨g, 11, none⟩ = some (.pointer p) := by rw [hb.cell]; exact hp
  clear hb hp
  rcases hx with ⟨rfl, rfl⟩ | ⟨x, b, rfl, rfl, hB, _⟩
  · go_enter Tryz.func216, Tryz.ntmps216
    go_wp2
    go_ret2
    exact ⟨rfl, rfl⟩
  · have hx : w.cell? ⟨b, 0, none⟩ = some (.string x) := by rw [hB.cell]; rfl
    clear hB
    go_enter Tryz.func216, Tryz.ntmps216
    go_wp2
    go_ret2
    exact ⟨rfl, rfl⟩
theorem jwe_X509URL (w : World) (g : Nat) (cs : Array Value) (p : Option Addr) (o : Option ByteArray) (hb : Blk w g 198 cs) (hp : cs[12]? = some (.pointer p)) (hx : Txt w g p o) :
    Calls Tryz.prog 217 #[.pointer (some ⟨g, 0, none⟩)] w (AccP o w) := by
  have hc : w.cell? ⟨g, 12, none⟩ = some (.pointer p) := by rw [hb.cell]; exact hp
  clear hb hp
  rcases hx with ⟨rfl, rfl⟩ | ⟨x, b, rfl, rfl, hB, _⟩
  · go_enter Tryz.func217, Tryz.ntmps217
    go_wp2
    go_ret2
    exact ⟨rfl, rfl⟩
  · have hx : w.cell? ⟨b, 0, none⟩ = some (.string x) := by rw [hB.cell]; rfl
    clear hB
    go_enter Tryz.func217, Tryz.ntmps217
    go_wp2
    go_ret2
    exact ⟨rfl, rfl⟩
theorem jwt_Issuer (w : World) (g : Nat) (cs : Array Value) (p : Option Addr) (o : Option ByteArray) (hb : Blk w g 208 cs) (hp : cs[2]? = some (.pointer p)) (hx : Txt w g p o) :
    Calls Tryz.prog 262 #[.pointer (some ⟨g, 0, none⟩)] w (AccP o w) := by
  have hc : w.cell? ⟨g, 2, none⟩ = some (.pointer p) := by rw [hb.cell]; exact hp
  clear hb hp
  rcases hx with ⟨rfl, rfl⟩ | ⟨x, b, rfl, rfl, hB, _⟩
  · go_enter Tryz.func262, Tryz.ntmps262
    go_wp2
    go_ret2
    exact ⟨rfl, rfl⟩
  · have hx : w.cell? ⟨b, 0, none⟩ = some (.string x) := by rw [hB.cell]; rfl
    clear hB
    go_enter Tryz.func262, Tryz.ntmps262
    go_wp2
    go_ret2
    exact ⟨rfl, rfl⟩
theorem jwt_JwtID (w : World) (g : Nat) (cs : Array Value) (p : Option Addr) (o : Option ByteArray) (hb : Blk w g 208 cs) (hp : cs[3]? = some (.pointer p)) (hx : Txt w g p o) :
    Calls Tryz.prog 263 #[.pointer (some ⟨g, 0, none⟩)] w (AccP o w) := by
  have hc : w.cell? ⟨g, 3, none⟩ = some (.pointer p) := by rw [hb.cell]; exact hp
  clear hb hp
  rcases hx with ⟨rfl, rfl⟩ | ⟨x, b, rfl, rfl, hB, _⟩
  · go_enter Tryz.func263, Tryz.ntmps263
    go_wp2
    go_ret2
    exact ⟨rfl, rfl⟩
  · have hx : w.cell? ⟨b, 0, none⟩ = some (.string x) := by rw [hB.cell]; rfl
    clear hB
    go_enter Tryz.func263, Tryz.ntmps263
    go_wp2
    go_ret2
    exact ⟨rfl, rfl⟩
theorem jwt_Subject (w : World) (g : Nat) (cs : Array Value) (p : Option Addr) (o : Option ByteArray) (hb : Blk w g 208 cs) (hp : cs[4]? = some (.pointer p)) (hx : Txt w g p o) :
    Calls Tryz.prog 268 #[.pointer (some ⟨g, 0, none⟩)] w (AccP o w) := by
  have hc : w.cell? ⟨g, 4, none⟩ = some (.pointer p) := by rw [hb.cell]; exact hp
  clear hb hp
  rcases hx with ⟨rfl, rfl⟩ | ⟨x, b, rfl, rfl, hB, _⟩
  · go_enter Tryz.func268, Tryz.ntmps268
    go_wp2
    go_ret2
    exact ⟨rfl, rfl⟩
  · have hx : w.cell? ⟨b, 0, none⟩ = some (.string x) := by rw [hB.cell]; rfl
    clear hB
    go_enter Tryz.func268, Tryz.ntmps268
    go_wp2
    go_ret2
    exact ⟨rfl, rfl⟩
theorem oid_Email (w : World) (g : Nat) (cs : Array Value) (p : Option Addr) (o : Option ByteArray) (hb : Blk w g 205 cs) (hp : cs[2]? = some (.pointer p)) (hx : Txt w g p o) :
    Calls Tryz.prog 228 #[.pointer (some ⟨g, 0, none⟩)] w (AccP o w) := by
  have hc : w.cell? ⟨g, 2, none⟩ = some (.pointer p) := by rw [hb.cell]; exact hp
  clear hb hp
  rcases hx with ⟨rfl, rfl⟩ | ⟨x, b, rfl, rfl, hB, _⟩
  · go_enter Tryz.func228, Tryz.ntmps228
    go_wp2
    go_ret2
    exact ⟨rfl, rfl⟩
  · have hx : w.cell? ⟨b, 0, none⟩ = some (.string x) := by rw [hB.cell]; rfl
    clear hB
    go_enter Tryz.func228, Tryz.ntmps228
    go_wp2
    go_ret2
    exact ⟨rfl, rfl⟩
theorem oid_FamilyName (w : World) (g : Nat) (cs : Array Value) (p : Option Addr) (o : Option ByteArray) (hb : Blk w g 205 cs) (hp : cs[4]? = some (.pointer p)) (hx : Txt w g p o) :
    Calls Tryz.prog 230 #[.pointer (some ⟨g, 0, none⟩)] w (AccP o w) := by
  have hc : w.cell? ⟨g, 4, none⟩ = some (.pointer p) := by rw [hb.cell]; exact hp
  clear hb hp
  rcases hx with ⟨rfl, rfl⟩ | ⟨x, b, rfl, rfl, hB, _⟩
  · go_enter Tryz.func230, Tryz.ntmps230
    go_wp2
    go_ret2
    exact ⟨rfl, rfl⟩
  · have hx : w.cell? ⟨b, 0, none⟩ = some (.string x) := by rw [hB.cell]; rfl
    clear hB
    go_enter Tryz.func230, Tryz.ntmps230
    go_wp2
    go_ret2
    exact ⟨rfl, rfl⟩
theorem oid_Gender (w : World) (g : Nat) (cs : Array Value) (p : Option Addr) (o : Option ByteArray) (hb : Blk w g 205 cs) (hp : cs[5]? = some (.pointer p)) (hx : Txt w g p o) :
    Calls Tryz.prog 231 #[.pointer (some ⟨g, 0, none⟩)] w (AccP o w) := by
  have hc : w.cell? ⟨g, 5, none⟩ = some (.pointer p) := by rw [hb.cell]; exact hp
  clear hb hp
  rcases hx with ⟨rfl, rfl⟩ | ⟨x, b, rfl, rfl, hB, _⟩
  · go_enter Tryz.func231, Tryz.ntmps231
    go_wp2
    go_ret2
    exact ⟨rfl, rfl⟩
  · have hx : w.cell? ⟨b, 0, none⟩ = some (.string x) := by rw [hB.cell]; rfl
    clear hB
    go_enter Tryz.func231, Tryz.ntmps231
    go_wp2
    go_ret2
    exact ⟨rfl, rfl⟩
theorem oid_GivenName (w : World) (g : Nat) (cs : Array Value) (p : Option Addr) (o : Option ByteArray) (hb : Blk w g 205 cs) (hp : cs[6]? = some (.pointer p)) (hx : Txt w g p o) :
    Calls Tryz.prog 233 #[.pointer (some ⟨g, 0, none⟩)] w (AccP o w) := by
  have hc : w.cell? ⟨g, 6, none⟩ = some (.pointer p) := by rw [hb.cell]; exact hp
  clear hb hp
  rcases hx with ⟨rfl, rfl⟩ | ⟨x, b, rfl, rfl, hB, _⟩
  · go_enter Tryz.func233, Tryz.ntmps233
    go_wp2
    go_ret2
    exact ⟨rfl, rfl⟩
  · have hx : w.cell? ⟨b, 0, none⟩ = some (.string x) := by rw [hB.cell]; rfl
    clear hB
    go_enter Tryz.func233, Tryz.ntmps233
    go_wp2
    go_ret2
    exact ⟨rfl, rfl⟩
theorem oid_Issuer (w : World) (g : Nat) (cs : Array Value) (p : Option Addr) (o : Option ByteArray) (hb : Blk w g 205 cs) (hp : cs[7]? = some (.pointer p)) (hx : Txt w g p o) :
    Calls Tryz.prog 235 #[.pointer (some ⟨g, 0, none⟩)] w (AccP o w) := by
  have hc : w.cell? ⟨g, 7, none⟩ = some (.pointer p) := by rw [hb.cell]; exact hp
  clear hb hp
  rcases hx with ⟨rfl, rfl⟩ | ⟨x, b, rfl, rfl, hB, _⟩
  · go_enter Tryz.func235, Tryz.ntmps235
    go_wp2
    go_ret2
    exact ⟨rfl, rfl⟩
  · have hx : w.cell? ⟨b, 0, none⟩ = some (.string x) := by rw [hB.cell]; rfl
    clear hB
    go_enter Tryz.func235, Tryz.ntmps235
    go_wp2
    go_ret2
    exact ⟨rfl, rfl⟩
theorem oid_JwtID (w : World) (g : Nat) (cs : Array Value) (p : Option Addr) (o : Option ByteArray) (hb : Blk w g 205 cs) (hp : cs[8]? = some (.pointer p)) (hx : Txt w g p o) :
    Calls Tryz.prog 236 #[.pointer (some ⟨g, 0, none⟩)] w (AccP o w) := by
  have hc : w.cell? ⟨g, 8, none⟩ = some (.pointer p) := by rw [hb.cell]; exact hp
  clear hb hp
  rcases hx with ⟨rfl, rfl⟩ | ⟨x, b, rfl, rfl, hB, _⟩
  · go_enter Tryz.func236, Tryz.ntmps236
    go_wp2
    go_ret2
    exact ⟨rfl, rfl⟩
  · have hx : w.cell? ⟨b, 0, none⟩ = some (.string x) := by rw [hB.cell]; rfl
    clear hB
    go_enter Tryz.func236, Tryz.ntmps236
    go_wp2
    go_ret2
    exact ⟨rfl, rfl⟩
theorem oid_Locale (w : World) (g : Nat) (cs : Array Value) (p : Option Addr) (o : Option ByteArray) (hb : Blk w g 205 cs) (hp : cs[9]? = some (.pointer p)) (hx : Txt w g p o) :
    Calls Tryz.prog 238 #[.pointer (some ⟨g, 0, none⟩)] w (AccP o w) := by
  have hc : w.cell? ⟨g, 9, none⟩ = some (.pointer p) := by rw [hb.cell]; exact hp
  clear hb hp
  rcases hx with ⟨rfl, rfl⟩ | ⟨x, b, rfl, rfl, hB, _⟩
  · go_enter Tryz.func238, Tryz.ntmps238
    go_wp2
    go_ret2
    exact ⟨rfl, rfl⟩
  · have hx : w.cell? ⟨b, 0, none⟩ = some (.string x) := by rw [hB.cell]; rfl
    clear hB
    go_enter Tryz.func238, Tryz.ntmps238
    go_wp2
    go_ret2
    exact ⟨rfl, rfl⟩
theorem oid_MiddleName (w : World) (g : Nat) (cs : Array Value) (p : Option Addr) (o : Option ByteArray) (hb : Blk w g 205 cs) (hp : cs[10]? = some (.pointer p)) (hx : Txt w g p o) :
    Calls Tryz.prog 239 #[.pointer (some ⟨g, 0, none⟩)] w (AccP o w) := by
  have hc : w.cell? ⟨g, 10, none⟩ = some (.pointer p) := by rw [hb.cell]; exact hp
  clear hb hp
  rcases hx with ⟨rfl, rfl⟩ | ⟨x, b, rfl, rfl, hB, _⟩
  · go_enter Tryz.func239, Tryz.ntmps239
    go_wp2
    go_ret2
    exact ⟨rfl, rfl⟩
  · have hx : w.cell? ⟨b, 0, none⟩ = some (.string x) := by rw [hB.cell]; rfl
    clear hB
    go_enter Tryz.func239, Tryz.ntmps239
    go_wp2
    go_ret2
    exact ⟨rfl, rfl⟩
theorem oid_Name (w : World) (g : Nat) (cs : Array Value) (p : Option Addr) (o : Option ByteArray) (hb : Blk w g 205 cs) (hp : cs[11]? = some (.pointer p)) (hx : Txt w g p o) :
    Calls Tryz.prog 240 #[.pointer (some ⟨g, 0, none⟩)] w (AccP o w) := by
  have hc : w.cell? ⟨g, 11, none⟩ = some (.pointer p) := by rw [hb.cell]; exact hp
  clear hb hp
  rcases hx with ⟨rfl, rfl⟩ | ⟨x, b, rfl, rfl, hB, _⟩
  · go_enter Tryz.func240, Tryz.ntmps240
    go_wp2
    go_ret2
    exact ⟨rfl, rfl⟩
  · have hx : w.cell? ⟨b, 0, none⟩ = some (.string x) := by rw [hB.cell]; rfl
    clear hB
    go_enter Tryz.func240, Tryz.ntmps240
    go_wp2
    go_ret2
    exact ⟨rfl, rfl⟩
theorem oid_Nickname (w : World) (g : Nat) (cs : Array Value) (p : Option Addr) (o : Option ByteArray) (hb : Blk w g 205 cs) (hp : cs[12]? = some (.pointer p)) (hx : Txt w g p o) :
    Calls Tryz.prog 241 #[.pointer (some ⟨g, 0, none⟩)] w (AccP o w) := by
  have hc : w.cell? ⟨g, 12, none⟩ = some (.pointer p) := by rw [hb.cell]; exact hp
  clear hb hp
  rcases hx with ⟨rfl, rfl⟩ | ⟨x, b, rfl, rfl, hB, _⟩
  · go_enter Tryz.func241, Tryz.ntmps241
    go_wp2
    go_ret2
    exact ⟨rfl, rfl⟩
  · have hx : w.cell? ⟨b, 0, none⟩ = some (.string x) := by rw [hB.cell]; rfl
    clear hB
    go_enter Tryz.func241, Tryz.ntmps241
    go_wp2
    go_ret2
    exact ⟨rfl, rfl⟩
theorem oid_PhoneNumber (w : World) (g : Nat) (cs : Array Value) (p : Option Addr) (o : Option ByteArray) (hb : Blk w g 205 cs) (hp : cs[13]? = some (.pointer p)) (hx : Txt w g p o) :
    Calls Tryz.prog 243 #[.pointer (some ⟨g, 0, none⟩)] w (AccP o w) := by
  have hc : w.cell? ⟨g, 13, none⟩ = some (.pointer p) := by rw [hb.cell]; exact hp
  clear hb hp
  rcases hx with ⟨rfl, rfl⟩ | ⟨x, b, rfl, rfl, hB, _⟩
  · go_enter Tryz.func243, Tryz.ntmps243
    go_wp2
    go_ret2
    exact ⟨rfl, rfl⟩
  · have hx : w.cell? ⟨b, 0, none⟩ = some (.string x) := by rw [hB.cell]; rfl
    clear hB
    go_enter Tryz.func243, Tryz.ntmps243
    go_wp2
    go_ret2
    exact ⟨rfl, rfl⟩
theorem oid_Picture (w : World) (g : Nat) (cs : Array Value) (p : Option Addr) (o : Option ByteArray) (hb : Blk w g 205 cs) (hp : cs[15]? = some (.pointer p)) (hx : Txt w g p o) :
    Calls Tryz.prog 245 #[.pointer (some ⟨g, 0, none⟩)] w (AccP o w) := by
  have hc : w.cell? ⟨g, 15, none⟩ = some (.pointer p) := by rw [hb.cell]; exact hp
  clear hb hp
  rcases hx with ⟨rfl, rfl⟩ | ⟨x, b, rfl, rfl, hB, _⟩
  · go_enter Tryz.func245, Tryz.ntmps245
    go_wp2
    go_ret2
    exact ⟨rfl, rfl⟩
  · have hx : w.cell? ⟨b, 0, none⟩ = some (.string x) := by rw [hB.cell]; rfl
    clear hB
    go_enter Tryz.func245, Tryz.ntmps245
    go_wp2
    go_ret2
    exact ⟨rfl, rfl⟩
theorem oid_PreferredUsername (w : World) (g : Nat) (cs : Array Value) (p : Option Addr) (o : Option ByteArray) (hb : Blk w g 205 cs) (hp : cs[16]? = some (.pointer p)) (hx : Txt w g p o) :
    Calls Tryz.prog 246 #[.pointer (some ⟨g, 0, none⟩)] w (AccP o w) := by
  have hc : w.cell? ⟨g, 16, none⟩ = some (.pointer p) := by rw [hb.cell]; exact hp
  clear hb hp
  rcases hx with ⟨rfl, rfl⟩ | ⟨x, b, rfl, rfl, hB, _⟩
  · go_enter Tryz.func246, Tryz.ntmps246
    go_wp2
    go_ret2
    exact ⟨rfl, rfl⟩
  · have hx : w.cell? ⟨b, 0, none⟩ = some (.string x) := by rw [hB.cell]; rfl
    clear hB
    go_enter Tryz.func246, Tryz.ntmps246
    go_wp2
    go_ret2
    exact ⟨rfl, rfl⟩
theorem oid_Profile (w : World) (g : Nat) (cs : Array Value) (p : Option Addr) (o : Option ByteArray) (hb : Blk w g 205 cs) (hp : cs[17]? = some (.pointer p)) (hx : Txt w g p o) :
    Calls Tryz.prog 247 #[.pointer (some ⟨g, 0, none⟩)] w (AccP o w) := by
  have hc : w.cell? ⟨g, 17, none⟩ = some (.pointer p) := by rw [hb.cell]; exact hp
  clear hb hp
  rcases hx with ⟨rfl, rfl⟩ | ⟨x, b, rfl, rfl, hB, _⟩
  · go_enter Tryz.func247, Tryz.ntmps247
    go_wp2
    go_ret2
    exact ⟨rfl, rfl⟩
  · have hx : w.cell? ⟨b, 0, none⟩ = some (.string x) := by rw [hB.cell]; rfl
    clear hB
    go_enter Tryz.func247, Tryz.ntmps247
    go_wp2
    go_ret2
    exact ⟨rfl, rfl⟩
theorem oid_Subject (w : World) (g : Nat) (cs : Array Value) (p : Option Addr) (o : Option ByteArray) (hb : Blk w g 205 cs) (hp : cs[18]? = some (.pointer p)) (hx : Txt w g p o) :
    Calls Tryz.prog 250 #[.pointer (some ⟨g, 0, none⟩)] w (AccP o w) := by
  have hc : w.cell? ⟨g, 18, none⟩ = some (.pointer p) := by rw [hb.cell]; exact hp
  clear hb hp
  rcases hx with ⟨rfl, rfl⟩ | ⟨x, b, rfl, rfl, hB, _⟩
  · go_enter Tryz.func250, Tryz.ntmps250
    go_wp2
    go_ret2
    exact ⟨rfl, rfl⟩
  · have hx : w.cell? ⟨b, 0, none⟩ = some (.string x) := by rw [hB.cell]; rfl
    clear hB
    go_enter Tryz.func250, Tryz.ntmps250
    go_wp2
    go_ret2
    exact ⟨rfl, rfl⟩
theorem oid_Website (w : World) (g : Nat) (cs : Array Value) (p : Option Addr) (o : Option ByteArray) (hb : Blk w g 205 cs) (hp : cs[19]? = some (.pointer p)) (hx : Txt w g p o) :
    Calls Tryz.prog 251 #[.pointer (some ⟨g, 0, none⟩)] w (AccP o w) := by
  have hc : w.cell? ⟨g, 19, none⟩ = some (.pointer p) := by rw [hb.cell]; exact hp
  clear hb hp
  rcases hx with ⟨rfl, rfl⟩ | ⟨x, b, rfl, rfl, hB, _⟩
  · go_enter Tryz.func251, Tryz.ntmps251
    go_wp2
    go_ret2
    exact ⟨rfl, rfl⟩
  · have hx : w.cell? ⟨b, 0, none⟩ = some (.string x) := by rw [hB.cell]; rfl
    clear hB
    go_enter Tryz.func251, Tryz.ntmps251
    go_wp2
    go_ret2
    exact ⟨rfl, rfl⟩
theorem oid_Zoneinfo (w : World) (g : Nat) (cs : Array Value) (p : Option Addr) (o : Option ByteArray) (hb : Blk w g 205 cs) (hp : cs[20]? = some (.pointer p)) (hx : Txt w g p o) :
    Calls Tryz.prog 252 #[.pointer (some ⟨g, 0, none⟩)] w (AccP o w) := by
  have hc : w.cell? ⟨g, 20, none⟩ = some (.pointer p) := by rw [hb.cell]; exact hp
  clear hb hp
  rcases hx with ⟨rfl, rfl⟩ | ⟨x, b, rfl, rfl, hB, _⟩
  · go_enter Tryz.func252, Tryz.ntmps252
    go_wp2
    go_ret2
    exact ⟨rfl, rfl⟩
  · have hx : w.cell? ⟨b, 0, none⟩ = some (.string x) := by rw [hB.cell]; rfl
    clear hB
    go_enter Tryz.func252, Tryz.ntmps252
    go_wp2
    go_ret2
    exact ⟨rfl, rfl⟩
theorem oid_EmailVerified (w : World) (g : Nat) (cs : Array Value) (p : Option Addr) (o : Option Bool) (hb : Blk w g 205 cs) (hp : cs[3]? = some (.pointer p)) (hx : Tru w g p o) :
    Calls Tryz.prog 229 #[.pointer (some ⟨g, 0, none⟩)] w (TruP o w) := by
  have hc : w.cell? ⟨g, 3, none⟩ = some (.pointer p) := by rw [hb.cell]; exact hp
  clear hb hp
  rcases hx with ⟨rfl, rfl⟩ | ⟨x, b, rfl, rfl, hB, _⟩
  · go_enter Tryz.func229, Tryz.ntmps229
    go_wp2
    go_ret2
    exact ⟨rfl, rfl⟩
  · have hx : w.cell? ⟨b, 0, none⟩ = some (.bool x) := by rw [hB.cell]; rfl
    clear hB
    go_enter Tryz.func229, Tryz.ntmps229
    go_wp2
    go_ret2
    exact ⟨rfl, rfl⟩
theorem oid_PhoneNumberVerified (w : World) (g : Nat) (cs : Array Value) (p : Option Addr) (o : Option Bool) (hb : Blk w g 205 cs) (hp : cs[14]? = some (.pointer p)) (hx : Tru w g p o) :
    Calls Tryz.prog 244 #[.pointer (some ⟨g, 0, none⟩)] w (TruP o w) := by
  have hc : w.cell? ⟨g, 14, none⟩ = some (.pointer p) := by rw [hb.cell]; exact hp
  clear hb hp
  rcases hx with ⟨rfl, rfl⟩ | ⟨x, b, rfl, rfl, hB, _⟩
  · go_enter Tryz.func244, Tryz.ntmps244
    go_wp2
    go_ret2
    exact ⟨rfl, rfl⟩
  · have hx : w.cell? ⟨b, 0, none⟩ = some (.bool x) := by rw [hB.cell]; rfl
    clear hB
    go_enter Tryz.func244, Tryz.ntmps244
    go_wp2
    go_ret2
    exact ⟨rfl, rfl⟩
end Go.Proofs.YtapjbdigpleekaaGreat.Mp

/- The accessors of lists: Critical of jws and jwe headers; the conditions are on what lies in memory. -/
set_option linter.unusedVariables false
set_option linter.unusedSimpArgs false
namespace Go.Proofs.YtapjbdigpleekaaGreat.Mp
open Go.RowKit Go.Proofs.YtapjbdigpleekaaGreat.K Go.Proofs.YtapjbdigpleekaaGreat.Cl
theorem jws_Critical (w : World) (g : Nat) (cs : Array Value) (A : Option Addr) (n c : Nat) (hb : Blk w g 191 cs) (hp : cs[3]? = some (.slice A n c)) :
    Calls Tryz.prog 168 #[.pointer (some ⟨g, 0, none⟩)] w fun e w' => e = .returned (.tuple #[.slice A n c, .bool A.isSome]) ∧ ∃ q, w' = w.drewN q := by
  have hc : w.cell? ⟨g, 3, none⟩ = some (.slice A n c) := by rw [hb.cell]; exact hp
  have hnil := fun W : World => Go.run_neq_slice_nil (P := Tryz.prog) W 23 9 A n c Tryz.underlying23
  clear hb hp
  go_enter Tryz.func168, Tryz.ntmps168
  go_wp2_with fail
  go_quiet (fail)
  go_wp2
  go_ret2
  exact ⟨rfl, _, rfl⟩
theorem jwe_Critical (w : World) (g : Nat) (cs : Array Value) (A : Option Addr) (n c : Nat) (hb : Blk w g 198 cs) (hp : cs[6]? = some (.slice A n c)) :
    Calls Tryz.prog 205 #[.pointer (some ⟨g, 0, none⟩)] w fun e w' => e = .returned (.tuple #[.slice A n c, .bool A.isSome]) ∧ ∃ q, w' = w.drewN q := by
  have hc : w.cell? ⟨g, 6, none⟩ = some (.slice A n c) := by rw [hb.cell]; exact hp
  have hnil := fun W : World => Go.run_neq_slice_nil (P := Tryz.prog) W 23 9 A n c Tryz.underlying23
  clear hb hp
  go_enter Tryz.func205, Tryz.ntmps205
  go_wp2_with fail
  go_quiet (fail)
  go_wp2
  go_ret2
  exact ⟨rfl, _, rfl⟩
end Go.Proofs.YtapjbdigpleekaaGreat.Mp

/- The accessors of lists of tokens: Audience; the conditions are on what lies in memory. -/
set_option linter.unusedVariables false
set_option linter.unusedSimpArgs false
namespace Go.Proofs.YtapjbdigpleekaaGreat.Mp
open Go.RowKit Go.Proofs.YtapjbdigpleekaaGreat.K Go.Proofs.YtapjbdigpleekaaGreat.Cl
theorem jwt_Audience_none (w : World) (g : Nat) (cs : Array Value) (n c : Nat) (hb : Blk w g 208 cs) (hp : cs[1]? = some (.slice none n c)) :
    Calls Tryz.prog 258 #[.pointer (some ⟨g, 0, none⟩)] w fun e w' => e = .returned (.tuple #[.slice none 0 0, .bool false]) ∧ w' = w := by
  have hc : w.cell? ⟨g, 1, none⟩ = some (.slice none n c) := by rw [hb.cell]; exact hp
  have hnil := fun W : World => Go.run_neq_slice_nil (P := Tryz.prog) W 203 9 none n c Tryz.underlying203
  clear hb hp
  go_enter Tryz.func258, Tryz.ntmps258
  go_wp2
  go_ret2
  exact ⟨rfl, rfl⟩
theorem jwt_Audience_some (w : World) (g : Nat) (cs : Array Value) (a : Addr) (n c : Nat) (hb : Blk w g 208 cs) (hp : cs[1]? = some (.slice (some a) n c)) :
    Calls Tryz.prog 258 #[.pointer (some ⟨g, 0, none⟩)] w fun e w' => e = .returned (.tuple #[.slice (some a) n c, .bool true]) ∧ w' = w := by
  have hc : w.cell? ⟨g, 1, none⟩ = some (.slice (some a) n c) := by rw [hb.cell]; exact hp
  have hnil := fun W : World => Go.run_neq_slice_nil (P := Tryz.prog) W 203 9 (some a) n c Tryz.underlying203
  have HG := Lib.hid (Get_calls w (some a) n c)
  clear hb hp
  go_enter Tryz.func258, Tryz.ntmps258
  go_wp2_with (go_at_call 253; go_loud ((with_reducible refine Calls.mono HG.out ?_); rintro e w1 ⟨rfl, rfl⟩))
  go_ret2
  exact ⟨rfl, rfl⟩
theorem oid_Audience_none (w : World) (g : Nat) (cs : Array Value) (n c : Nat) (hb : Blk w g 205 cs) (hp : cs[1]? = some (.slice none n c)) :
    Calls Tryz.prog 226 #[.pointer (some ⟨g, 0, none⟩)] w fun e w' => e = .returned (.tuple #[.slice none 0 0, .bool false]) ∧ w' = w := by
  have hc : w.cell? ⟨g, 1, none⟩ = some (.slice none n c) := by rw [hb.cell]; exact hp
  have hnil := fun W : World => Go.run_neq_slice_nil (P := Tryz.prog) W 203 9 none n c Tryz.underlying203
  clear hb hp
  go_enter Tryz.func226, Tryz.ntmps226
  go_wp2
  go_ret2
  exact ⟨rfl, rfl⟩
theorem oid_Audience_some (w : World) (g : Nat) (cs : Array Value) (a : Addr) (n c : Nat) (hb : Blk w g 205 cs) (hp : cs[1]? = some (.slice (some a) n c)) :
    Calls Tryz.prog 226 #[.pointer (some ⟨g, 0, none⟩)] w fun e w' => e = .returned (.tuple #[.slice (some a) n c, .bool true]) ∧ w' = w := by
  have hc : w.cell? ⟨g, 1, none⟩ = some (.slice (some a) n c) := by rw [hb.cell]; exact hp
  have hnil := fun W : World => Go.run_neq_slice_nil (P := Tryz.prog) W 203 9 (some a) n c Tryz.underlying203
  have HG := Lib.hid (Get_calls w (some a) n c)
  clear hb hp
  go_enter Tryz.func226, Tryz.ntmps226
  go_wp2_with (go_at_call 253; go_loud ((with_reducible refine Calls.mono HG.out ?_); rintro e w1 ⟨rfl, rfl⟩))
  go_ret2
  exact ⟨rfl, rfl⟩
end Go.Proofs.YtapjbdigpleekaaGreat.Mp

/- Has of each known name; the conditions are on what lies in memory. Printed by gen_mphas.py. -/
set_option linter.unusedVariables false
set_option linter.unusedSimpArgs false
namespace Go.Proofs.YtapjbdigpleekaaGreat.Mp
open Go.RowKit Go.Proofs.YtapjbdigpleekaaGreat.K Go.Proofs.YtapjbdigpleekaaGreat.Cl
/-- A truth value comes back, and nothing turns. -/
def Says (r : Bool) (w : World) (e : Ending) (w' : World) : Prop := e = .returned (.bool r) ∧ w' = w
theorem jws_Has_cty (w : World) (g : Nat) (cs : Array Value) (p : Option Addr) (hb : Blk w g 191 cs) (hp : cs[2]? = some (.pointer p)) :
    Calls Tryz.prog 170 #[.pointer (some ⟨g, 0, none⟩), .string ⟨#[99, 116, 121]⟩] w (Says p.isSome w) := by
  have hc : w.cell? ⟨g, 2, none⟩ = some (.pointer p) := by rw [hb.cell]; exact hp
  clear hb hp
  cases p with
  | none =>
    go_enter Tryz.func170, Tryz.ntmps170
    go_wp2
    go_ret
    exact ⟨rfl, rfl⟩
  | some q =>
    go_enter Tryz.func170, Tryz.ntmps170
    go_wp2
    go_ret
    exact ⟨rfl, rfl⟩
theorem jws_Has_jku (w : World) (g : Nat) (cs : Array Value) (p : Option Addr) (hb : Blk w g 191 cs) (hp : cs[4]? = some (.pointer p)) :
    Calls Tryz.prog 170 #[.pointer (some ⟨g, 0, none⟩), .string ⟨#[106, 107, 117]⟩] w (Says p.isSome w) := by
  have hc : w.cell? ⟨g, 4, none⟩ = some (.pointer p) := by rw [hb.cell]; exact hp
  clear hb hp
  cases p with
  | none =>
    go_enter Tryz.func170, Tryz.ntmps170
    go_wp2
    go_ret
    exact ⟨rfl, rfl⟩
  | some q =>
    go_enter Tryz.func170, Tryz.ntmps170
    go_wp2
    go_ret
    exact ⟨rfl, rfl⟩
theorem jws_Has_kid (w : World) (g : Nat) (cs : Array Value) (p : Option Addr) (hb : Blk w g 191 cs) (hp : cs[5]? = some (.pointer p)) :
    Calls Tryz.prog 170 #[.pointer (some ⟨g, 0, none⟩), .string ⟨#[107, 105, 100]⟩] w (Says p.isSome w) := by
  have hc : w.cell? ⟨g, 5, none⟩ = some (.pointer p) := by rw [hb.cell]; exact hp
  clear hb hp
  cases p with
  | none =>
    go_enter Tryz.func170, Tryz.ntmps170
    go_wp2
    go_ret
    exact ⟨rfl, rfl⟩
  | some q =>
    go_enter Tryz.func170, Tryz.ntmps170
    go_wp2
    go_ret
    exact ⟨rfl, rfl⟩
theorem jws_Has_typ (w : World) (g : Nat) (cs : Array Value) (p : Option Addr) (hb : Blk w g 191 cs) (hp : cs[6]? = some (.pointer p)) :
    Calls Tryz.prog 170 #[.pointer (some ⟨g, 0, none⟩), .string ⟨#[116, 121, 112]⟩] w (Says p.isSome w) := by
  have hc : w.cell? ⟨g, 6, none⟩ = some (.pointer p) := by rw [hb.cell]; exact hp
  clear hb hp
  cases p with
  | none =>
    go_enter Tryz.func170, Tryz.ntmps170
    go_wp2
    go_ret
    exact ⟨rfl, rfl⟩
  | some q =>
    go_enter Tryz.func170, Tryz.ntmps170
    go_wp2
    go_ret
    exact ⟨rfl, rfl⟩
theorem jws_Has_x5t (w : World) (g : Nat) (cs : Array Value) (p : Option Addr) (hb : Blk w g 191 cs) (hp : cs[7]? = some (.pointer p)) :
    Calls Tryz.prog 170 #[.pointer (some ⟨g, 0, none⟩), .string ⟨#[120, 53, 116]⟩] w (Says p.isSome w) := by
  have hc : w.cell? ⟨g, 7, none⟩ = some (.pointer p) := by rw [hb.cell]; exact hp
  clear hb hp
  cases p with
  | none =>
    go_enter Tryz.func170, Tryz.ntmps170
    go_wp2
    go_ret
    exact ⟨rfl, rfl⟩
  | some q =>
    go_enter Tryz.func170, Tryz.ntmps170
    go_wp2
    go_ret
    exact ⟨rfl, rfl⟩
theorem jws_Has_x5t_S256 (w : World) (g : Nat) (cs : Array Value) (p : Option Addr) (hb : Blk w g 191 cs) (hp : cs[8]? = some (.pointer p)) :
    Calls Tryz.prog 170 #[.pointer (some ⟨g, 0, none⟩), .string ⟨#[120, 53, 116, 35, 83, 50, 53, 54]⟩] w (Says p.isSome w) := by
  have hc : w.cell? ⟨g, 8, none⟩ = some (.pointer p) := by rw [hb.cell]; exact hp
  clear hb hp
  cases p with
  | none =>
    go_enter Tryz.func170, Tryz.ntmps170
    go_wp2
    go_ret
    exact ⟨rfl, rfl⟩
  | some q =>
    go_enter Tryz.func170, Tryz.ntmps170
    go_wp2
    go_ret
    exact ⟨rfl, rfl⟩
theorem jws_Has_x5u (w : World) (g : Nat) (cs : Array Value) (p : Option Addr) (hb : Blk w g 191 cs) (hp : cs[9]? = some (.pointer p)) :
    Calls Tryz.prog 170 #[.pointer (some ⟨g, 0, none⟩), .string ⟨#[120, 53, 117]⟩] w (Says p.isSome w) := by
  have hc : w.cell? ⟨g, 9, none⟩ = some (.pointer p) := by rw [hb.cell]; exact hp
  clear hb hp
  cases p with
  | none =>
    go_enter Tryz.func170, Tryz.ntmps170
    go_wp2
    go_ret
    exact ⟨rfl, rfl⟩
  | some q =>
    go_enter Tryz.func170, Tryz.ntmps170
    go_wp2
    go_ret
    exact ⟨rfl, rfl⟩
theorem jwe_Has_cty (w : World) (g : Nat) (cs : Array Value) (p : Option Addr) (hb : Blk w g 198 cs) (hp : cs[5]? = some (.pointer p)) :
    Calls Tryz.prog 207 #[.pointer (some ⟨g, 0, none⟩), .string ⟨#[99, 116, 121]⟩] w (Says p.isSome w) := by
  have hc : w.cell? ⟨g, 5, none⟩ = some (.pointer p) := by rw [hb.cell]; exact hp
  clear hb hp
  cases p with
  | none =>
    go_enter Tryz.func207, Tryz.ntmps207
    go_wp2
    go_ret
    exact ⟨rfl, rfl⟩
  | some q =>
    go_enter Tryz.func207, Tryz.ntmps207
    go_wp2
    go_ret
    exact ⟨rfl, rfl⟩
theorem jwe_Has_jku (w : World) (g : Nat) (cs : Array Value) (p : Option Addr) (hb : Blk w g 198 cs) (hp : cs[7]? = some (.pointer p)) :
    Calls Tryz.prog 207 #[.pointer (some ⟨g, 0, none⟩), .string ⟨#[106, 107, 117]⟩] w (Says p.isSome w) := by
  have hc : w.cell? ⟨g, 7, none⟩ = some (.pointer p) := by rw [hb.cell]; exact hp
  clear hb hp
  cases p with
  | none =>
    go_enter Tryz.func207, Tryz.ntmps207
    go_wp2
    go_ret
    exact ⟨rfl, rfl⟩
  | some q =>
    go_enter Tryz.func207, Tryz.ntmps207
    go_wp2
    go_ret
    exact ⟨rfl, rfl⟩
theorem jwe_Has_kid (w : World) (g : Nat) (cs : Array Value) (p : Option Addr) (hb : Blk w g 198 cs) (hp : cs[8]? = some (.pointer p)) :
    Calls Tryz.prog 207 #[.pointer (some ⟨g, 0, none⟩), .string ⟨#[107, 105, 100]⟩] w (Says p.isSome w) := by
  have hc : w.cell? ⟨g, 8, none⟩ = some (.pointer p) := by rw [hb.cell]; exact hp
  clear hb hp
  cases p with
  | none =>
    go_enter Tryz.func207, Tryz.ntmps207
    go_wp2
    go_ret
    exact ⟨rfl, rfl⟩
  | some q =>
    go_enter Tryz.func207, Tryz.ntmps207
    go_wp2
    go_ret
    exact ⟨rfl, rfl⟩
theorem jwe_Has_typ (w : World) (g : Nat) (cs : Array Value) (p : Option Addr) (hb : Blk w g 198 cs) (hp : cs[9]? = some (.pointer p)) :
    Calls Tryz.prog 207 #[.pointer (some ⟨g, 0, none⟩), .string ⟨#[116, 121, 112]⟩] w (Says p.isSome w) := by
  have hc : w.cell? ⟨g, 9, none⟩ = some (.pointer p) := by rw [hb.cell]; exact hp
  clear hb hp
  cases p with
  | none =>
    go_enter Tryz.func207, Tryz.ntmps207
    go_wp2
    go_ret
    exact ⟨rfl, rfl⟩
  | some q =>
    go_enter Tryz.func207, Tryz.ntmps207
    go_wp2
    go_ret
    exact ⟨rfl, rfl⟩
theorem jwe_Has_x5t (w : World) (g : Nat) (cs : Array Value) (p : Option Addr) (hb : Blk w g 198 cs) (hp : cs[10]? = some (.pointer p)) :
    Calls Tryz.prog 207 #[.pointer (some ⟨g, 0, none⟩), .string ⟨#[120, 53, 116]⟩] w (Says p.isSome w) := by
  have hc : w.cell? ⟨g, 10, none⟩ = some (.pointer p) := by rw [hb.cell]; exact hp
  clear hb hp
  cases p with
  | none =>
    go_enter Tryz.func207, Tryz.ntmps207
    go_wp2
    go_ret
    exact ⟨rfl, rfl⟩
  | some q =>
    go_enter Tryz.func207, Tryz.ntmps207
    go_wp2
    go_ret
    exact ⟨rfl, rfl⟩
theorem jwe_Has_x5t_S256 (w : World) (g : Nat) (cs : Array Value) (p : Option Addr) (hb : Blk w g 198 cs) (hp : cs[11]? = some (.pointer p)) :
    Calls Tryz.prog 207 #[.pointer (some ⟨g, 0, none⟩), .string ⟨#[120, 53, 116, 35, 83, 50, 53, 54]⟩] w (Says p.isSome w) := by
  have hc : w.cell? ⟨g, 11, none⟩ = some (.pointer p) := by rw [hb.cell]; exact hp
  clear hb hp
  cases p with
  | none =>
    go_enter Tryz.func207, Tryz.ntmps207
    go_wp2
    go_ret
    exact ⟨rfl, rfl⟩
  | some q =>
    go_enter Tryz.func207, Tryz.ntmps207
    go_wp2
    go_ret
    exact ⟨rfl, rfl⟩
theorem jwe_Has_x5u (w : World) (g : Nat) (cs : Array Value) (p : Option Addr) (hb : Blk w g 198 cs) (hp : cs[12]? = some (.pointer p)) :
    Calls Tryz.prog 207 #[.pointer (some ⟨g, 0, none⟩), .string ⟨#[120, 53, 117]⟩] w (Says p.isSome w) := by
  have hc : w.cell? ⟨g, 12, none⟩ = some (.pointer p) := by rw [hb.cell]; exact hp
  clear hb hp
  cases p with
  | none =>
    go_enter Tryz.func207, Tryz.ntmps207
    go_wp2
    go_ret
    exact ⟨rfl, rfl⟩
  | some q =>
    go_enter Tryz.func207, Tryz.ntmps207
    go_wp2
    go_ret
    exact ⟨rfl, rfl⟩
theorem jwt_Has_iss (w : World) (g : Nat) (cs : Array Value) (p : Option Addr) (hb : Blk w g 208 cs) (hp : cs[2]? = some (.pointer p)) :
    Calls Tryz.prog 261 #[.pointer (some ⟨g, 0, none⟩), .string ⟨#[105, 115, 115]⟩] w (Says p.isSome w) := by
  have hc : w.cell? ⟨g, 2, none⟩ = some (.pointer p) := by rw [hb.cell]; exact hp
  clear hb hp
  cases p with
  | none =>
    go_enter Tryz.func261, Tryz.ntmps261
    go_wp2
    go_ret
    exact ⟨rfl, rfl⟩
  | some q =>
    go_enter Tryz.func261, Tryz.ntmps261
    go_wp2
    go_ret
    exact ⟨rfl, rfl⟩
theorem jwt_Has_jti (w : World) (g : Nat) (cs : Array Value) (p : Option Addr) (hb : Blk w g 208 cs) (hp : cs[3]? = some (.pointer p)) :
    Calls Tryz.prog 261 #[.pointer (some ⟨g, 0, none⟩), .string ⟨#[106, 116, 105]⟩] w (Says p.isSome w) := by
  have hc : w.cell? ⟨g, 3, none⟩ = some (.pointer p) := by rw [hb.cell]; exact hp
  clear hb hp
  cases p with
  | none =>
    go_enter Tryz.func261, Tryz.ntmps261
    go_wp2
    go_ret
    exact ⟨rfl, rfl⟩
  | some q =>
    go_enter Tryz.func261, Tryz.ntmps261
    go_wp2
    go_ret
    exact ⟨rfl, rfl⟩
theorem jwt_Has_sub (w : World) (g : Nat) (cs : Array Value) (p : Option Addr) (hb : Blk w g 208 cs) (hp : cs[4]? = some (.pointer p)) :
    Calls Tryz.prog 261 #[.pointer (some ⟨g, 0, none⟩), .string ⟨#[115, 117, 98]⟩] w (Says p.isSome w) := by
  have hc : w.cell? ⟨g, 4, none⟩ = some (.pointer p) := by rw [hb.cell]; exact hp
  clear hb hp
  cases p with
  | none =>
    go_enter Tryz.func261, Tryz.ntmps261
    go_wp2
    go_ret
    exact ⟨rfl, rfl⟩
  | some q =>
    go_enter Tryz.func261, Tryz.ntmps261
    go_wp2
    go_ret
    exact ⟨rfl, rfl⟩
theorem oid_Has_email (w : World) (g : Nat) (cs : Array Value) (p : Option Addr) (hb : Blk w g 205 cs) (hp : cs[2]? = some (.pointer p)) :
    Calls Tryz.prog 234 #[.pointer (some ⟨g, 0, none⟩), .string ⟨#[101, 109, 97, 105, 108]⟩] w (Says p.isSome w) := by
  have hc : w.cell? ⟨g, 2, none⟩ = some (.pointer p) := by rw [hb.cell]; exact hp
  clear hb hp
  cases p with
  | none =>
    go_enter Tryz.func234, Tryz.ntmps234
    go_wp2
    go_ret
    exact ⟨rfl, rfl⟩
  | some q =>
    go_enter Tryz.func234, Tryz.ntmps234
    go_wp2
    go_ret
    exact ⟨rfl, rfl⟩
theorem oid_Has_email_verified (w : World) (g : Nat) (cs : Array Value) (p : Option Addr) (hb : Blk w g 205 cs) (hp : cs[3]? = some (.pointer p)) :
    Calls Tryz.prog 234 #[.pointer (some ⟨g, 0, none⟩), .string ⟨#[101, 109, 97, 105, 108, 95, 118, 101, 114, 105, 102, 105, 101, 100]⟩] w (Says p.isSome w) := by
  have hc : w.cell? ⟨g, 3, none⟩ = some (.pointer p) := by rw [hb.cell]; exact hp
  clear hb hp
  cases p with
  | none =>
    go_enter Tryz.func234, Tryz.ntmps234
    go_wp2
    go_ret
    exact ⟨rfl, rfl⟩
  | some q =>
    go_enter Tryz.func234, Tryz.ntmps234
    go_wp2
    go_ret
    exact ⟨rfl, rfl⟩
theorem oid_Has_family_name (w : World) (g : Nat) (cs : Array Value) (p : Option Addr) (hb : Blk w g 205 cs) (hp : cs[4]? = some (.pointer p)) :
    Calls Tryz.prog 234 #[.pointer (some ⟨g, 0, none⟩), .string ⟨#[102, 97, 109, 105, 108, 121, 95, 110, 97, 109, 101]⟩] w (Says p.isSome w) := by
  have hc : w.cell? ⟨g, 4, none⟩ = some (.pointer p) := by rw [hb.cell]; exact hp
  clear hb hp
  cases p with
  | none =>
    go_enter Tryz.func234, Tryz.ntmps234
    go_wp2
    go_ret
    exact ⟨rfl, rfl⟩
  | some q =>
    go_enter Tryz.func234, Tryz.ntmps234
    go_wp2
    go_ret
    exact ⟨rfl, rfl⟩
theorem oid_Has_gender (w : World) (g : Nat) (cs : Array Value) (p : Option Addr) (hb : Blk w g 205 cs) (hp : cs[5]? = some (.pointer p)) :
    Calls Tryz.prog 234 #[.pointer (some ⟨g, 0, none⟩), .string ⟨#[103, 101, 110, 100, 101, 114]⟩] w (Says p.isSome w) := by
  have hc : w.cell? ⟨g, 5, none⟩ = some (.pointer p) := by rw [hb.cell]; exact hp
  clear hb hp
  cases p with
  | none =>
    go_enter Tryz.func234, Tryz.ntmps234
    go_wp2
    go_ret
    exact ⟨rfl, rfl⟩
  | some q =>
    go_enter Tryz.func234, Tryz.ntmps234
    go_wp2
    go_ret
    exact ⟨rfl, rfl⟩
theorem oid_Has_given_name (w : World) (g : Nat) (cs : Array Value) (p : Option Addr) (hb : Blk w g 205 cs) (hp : cs[6]? = some (.pointer p)) :
    Calls Tryz.prog 234 #[.pointer (some ⟨g, 0, none⟩), .string ⟨#[103, 105, 118, 101, 110, 95, 110, 97, 109, 101]⟩] w (Says p.isSome w) := by
  have hc : w.cell? ⟨g, 6, none⟩ = some (.pointer p) := by rw [hb.cell]; exact hp
  clear hb hp
  cases p with
  | none =>
    go_enter Tryz.func234, Tryz.ntmps234
    go_wp2
    go_ret
    exact ⟨rfl, rfl⟩
  | some q =>
    go_enter Tryz.func234, Tryz.ntmps234
    go_wp2
    go_ret
    exact ⟨rfl, rfl⟩
theorem oid_Has_iss (w : World) (g : Nat) (cs : Array Value) (p : Option Addr) (hb : Blk w g 205 cs) (hp : cs[7]? = some (.pointer p)) :
    Calls Tryz.prog 234 #[.pointer (some ⟨g, 0, none⟩), .string ⟨#[105, 115, 115]⟩] w (Says p.isSome w) := by
  have hc : w.cell? ⟨g, 7, none⟩ = some (.pointer p) := by rw [hb.cell]; exact hp
  clear hb hp
  cases p with
  | none =>
    go_enter Tryz.func234, Tryz.ntmps234
    go_wp2
    go_ret
    exact ⟨rfl, rfl⟩
  | some q =>
    go_enter Tryz.func234, Tryz.ntmps234
    go_wp2
    go_ret
    exact ⟨rfl, rfl⟩
theorem oid_Has_jti (w : World) (g : Nat) (cs : Array Value) (p : Option Addr) (hb : Blk w g 205 cs) (hp : cs[8]? = some (.pointer p)) :
    Calls Tryz.prog 234 #[.pointer (some ⟨g, 0, none⟩), .string ⟨#[106, 116, 105]⟩] w (Says p.isSome w) := by
  have hc : w.cell? ⟨g, 8, none⟩ = some (.pointer p) := by rw [hb.cell]; exact hp
  clear hb hp
  cases p with
  | none =>
    go_enter Tryz.func234, Tryz.ntmps234
    go_wp2
    go_ret
    exact ⟨rfl, rfl⟩
  | some q =>
    go_enter Tryz.func234, Tryz.ntmps234
    go_wp2
    go_ret
    exact ⟨rfl, rfl⟩
theorem oid_Has_locale (w : World) (g : Nat) (cs : Array Value) (p : Option Addr) (hb : Blk w g 205 cs) (hp : cs[9]? = some (.pointer p)) :
    Calls Tryz.prog 234 #[.pointer (some ⟨g, 0, none⟩), .string ⟨#[108, 111, 99, 97, 108, 101]⟩] w (Says p.isSome w) := by
  have hc : w.cell? ⟨g, 9, none⟩ = some (.pointer p) := by rw [hb.cell]; exact hp
  clear hb hp
  cases p with
  | none =>
    go_enter Tryz.func234, Tryz.ntmps234
    go_wp2
    go_ret
    exact ⟨rfl, rfl⟩
  | some q =>
    go_enter Tryz.func234, Tryz.ntmps234
    go_wp2
    go_ret
    exact ⟨rfl, rfl⟩
theorem oid_Has_middle_name (w : World) (g : Nat) (cs : Array Value) (p : Option Addr) (hb : Blk w g 205 cs) (hp : cs[10]? = some (.pointer p)) :
    Calls Tryz.prog 234 #[.pointer (some ⟨g, 0, none⟩), .string ⟨#[109, 105, 100, 100, 108, 101, 95, 110, 97, 109, 101]⟩] w (Says p.isSome w) := by
  have hc : w.cell? ⟨g, 10, none⟩ = some (.pointer p) := by rw [hb.cell]; exact hp
  clear hb hp
  cases p with
  | none =>
    go_enter Tryz.func234, Tryz.ntmps234
    go_wp2
    go_ret
    exact ⟨rfl, rfl⟩
  | some q =>
    go_enter Tryz.func234, Tryz.ntmps234
    go_wp2
    go_ret
    exact ⟨rfl, rfl⟩
theorem oid_Has_name (w : World) (g : Nat) (cs : Array Value) (p : Option Addr) (hb : Blk w g 205 cs) (hp : cs[11]? = some (.pointer p)) :
    Calls Tryz.prog 234 #[.pointer (some ⟨g, 0, none⟩), .string ⟨#[110, 97, 109, 101]⟩] w (Says p.isSome w) := by
  have hc : w.cell? ⟨g, 11, none⟩ = some (.pointer p) := by rw [hb.cell]; exact hp
  clear hb hp
  cases p with
  | none =>
    go_enter Tryz.func234, Tryz.ntmps234
    go_wp2
    go_ret
    exact ⟨rfl, rfl⟩
  | some q =>
    go_enter Tryz.func234, Tryz.ntmps234
    go_wp2
    go_ret
    exact ⟨rfl, rfl⟩
theorem oid_Has_nickname (w : World) (g : Nat) (cs : Array Value) (p : Option Addr) (hb : Blk w g 205 cs) (hp : cs[12]? = some (.pointer p)) :
    Calls Tryz.prog 234 #[.pointer (some ⟨g, 0, none⟩), .string ⟨#[110, 105, 99, 107, 110, 97, 109, 101]⟩] w (Says p.isSome w) := by
  have hc : w.cell? ⟨g, 12, none⟩ = some (.pointer p) := by rw [hb.cell]; exact hp
  clear hb hp
  cases p with
  | none =>
    go_enter Tryz.func234, Tryz.ntmps234
    go_wp2
    go_ret
    exact ⟨rfl, rfl⟩
  | some q =>
    go_enter Tryz.func234, Tryz.ntmps234
    go_wp2
    go_ret
    exact ⟨rfl, rfl⟩
theorem oid_Has_phone_number (w : World) (g : Nat) (cs : Array Value) (p : Option Addr) (hb : Blk w g 205 cs) (hp : cs[13]? = some (.pointer p)) :
    Calls Tryz.prog 234 #[.pointer (some ⟨g, 0, none⟩), .string ⟨#[112, 104, 111, 110, 101, 95, 110, 117, 109, 98, 101, 114]⟩] w (Says p.isSome w) := by
  have hc : w.cell? ⟨g, 13, none⟩ = some (.pointer p) := by rw [hb.cell]; exact hp
  clear hb hp
  cases p with
  | none =>
    go_enter Tryz.func234, Tryz.ntmps234
    go_wp2
    go_ret
    exact ⟨rfl, rfl⟩
  | some q =>
    go_enter Tryz.func234, Tryz.ntmps234
    go_wp2
    go_ret
    exact ⟨rfl, rfl⟩
theorem oid_Has_phone_number_verified (w : World) (g : Nat) (cs : Array Value) (p : Option Addr) (hb : Blk w g 205 cs) (hp : cs[14]? = some (.pointer p)) :
    Calls Tryz.prog 234 #[.pointer (some ⟨g, 0, none⟩), .string ⟨#[112, 104, 111, 110, 101, 95, 110, 117, 109, 98, 101, 114, 95, 118, 101, 114, 105, 102, 105, 101, 100]⟩] w (Says p.isSome w) := by
  have hc : w.cell? ⟨g, 14, none⟩ = some (.pointer p) := by rw [hb.cell]; exact hp
  clear hb hp
  cases p with
  | none =>
    go_enter Tryz.func234, Tryz.ntmps234
    go_wp2
    go_ret
    exact ⟨rfl, rfl⟩
  | some q =>
    go_enter Tryz.func234, Tryz.ntmps234
    go_wp2
    go_ret
    exact ⟨rfl, rfl⟩
theorem oid_Has_picture (w : World) (g : Nat) (cs : Array Value) (p : Option Addr) (hb : Blk w g 205 cs) (hp : cs[15]? = some (.pointer p)) :
    Calls Tryz.prog 234 #[.pointer (some ⟨g, 0, none⟩), .string ⟨#[112, 105, 99, 116, 117, 114, 101]⟩] w (Says p.isSome w) := by
  have hc : w.cell? ⟨g, 15, none⟩ = some (.pointer p) := by rw [hb.cell]; exact hp
  clear hb hp
  cases p with
  | none =>
    go_enter Tryz.func234, Tryz.ntmps234
    go_wp2
    go_ret
    exact ⟨rfl, rfl⟩
  | some q =>
    go_enter Tryz.func234, Tryz.ntmps234
    go_wp2
    go_ret
    exact ⟨rfl, rfl⟩
theorem oid_Has_preferred_username (w : World) (g : Nat) (cs : Array Value) (p : Option Addr) (hb : Blk w g 205 cs) (hp : cs[16]? = some (.pointer p)) :
    Calls Tryz.prog 234 #[.pointer (some ⟨g, 0, none⟩), .string ⟨#[112, 114, 101, 102, 101, 114, 114, 101, 100, 95, 117, 115, 101, 114, 110, 97, 109, 101]⟩] w (Says p.isSome w) := by
  have hc : w.cell? ⟨g, 16, none⟩ = some (.pointer p) := by rw [hb.cell]; exact hp
  clear hb hp
  cases p with
  | none =>
    go_enter Tryz.func234, Tryz.ntmps234
    go_wp2
    go_ret
    exact ⟨rfl, rfl⟩
  | some q =>
    go_enter Tryz.func234, Tryz.ntmps234
    go_wp2
    go_ret
    exact ⟨rfl, rfl⟩
theorem oid_Has_profile (w : World) (g : Nat) (cs : Array Value) (p : Option Addr) (hb : Blk w g 205 cs) (hp : cs[17]? = some (.pointer p)) :
    Calls Tryz.prog 234 #[.pointer (some ⟨g, 0, none⟩), .string ⟨#[112, 114, 111, 102, 105, 108, 101]⟩] w (Says p.isSome w) := by
  have hc : w.cell? ⟨g, 17, none⟩ = some (.pointer p) := by rw [hb.cell]; exact hp
  clear hb hp
  cases p with
  | none =>
    go_enter Tryz.func234, Tryz.ntmps234
    go_wp2
    go_ret
    exact ⟨rfl, rfl⟩
  | some q =>
    go_enter Tryz.func234, Tryz.ntmps234
    go_wp2
    go_ret
    exact ⟨rfl, rfl⟩
theorem oid_Has_sub (w : World) (g : Nat) (cs : Array Value) (p : Option Addr) (hb : Blk w g 205 cs) (hp : cs[18]? = some (.pointer p)) :
    Calls Tryz.prog 234 #[.pointer (some ⟨g, 0, none⟩), .string ⟨#[115, 117, 98]⟩] w (Says p.isSome w) := by
  have hc : w.cell? ⟨g, 18, none⟩ = some (.pointer p) := by rw [hb.cell]; exact hp
  clear hb hp
  cases p with
  | none =>
    go_enter Tryz.func234, Tryz.ntmps234
    go_wp2
    go_ret
    exact ⟨rfl, rfl⟩
  | some q =>
    go_enter Tryz.func234, Tryz.ntmps234
    go_wp2
    go_ret
    exact ⟨rfl, rfl⟩
theorem oid_Has_website (w : World) (g : Nat) (cs : Array Value) (p : Option Addr) (hb : Blk w g 205 cs) (hp : cs[19]? = some (.pointer p)) :
    Calls Tryz.prog 234 #[.pointer (some ⟨g, 0, none⟩), .string ⟨#[119, 101, 98, 115, 105, 116, 101]⟩] w (Says p.isSome w) := by
  have hc : w.cell? ⟨g, 19, none⟩ = some (.pointer p) := by rw [hb.cell]; exact hp
  clear hb hp
  cases p with
  | none =>
    go_enter Tryz.func234, Tryz.ntmps234
    go_wp2
    go_ret
    exact ⟨rfl, rfl⟩
  | some q =>
    go_enter Tryz.func234, Tryz.ntmps234
    go_wp2
    go_ret
    exact ⟨rfl, rfl⟩
theorem oid_Has_zoneinfo (w : World) (g : Nat) (cs : Array Value) (p : Option Addr) (hb : Blk w g 205 cs) (hp : cs[20]? = some (.pointer p)) :
    Calls Tryz.prog 234 #[.pointer (some ⟨g, 0, none⟩), .string ⟨#[122, 111, 110, 101, 105, 110, 102, 111]⟩] w (Says p.isSome w) := by
  have hc : w.cell? ⟨g, 20, none⟩ = some (.pointer p) := by rw [hb.cell]; exact hp
  clear hb hp
  cases p with
  | none =>
    go_enter Tryz.func234, Tryz.ntmps234
    go_wp2
    go_ret
    exact ⟨rfl, rfl⟩
  | some q =>
    go_enter Tryz.func234, Tryz.ntmps234
    go_wp2
    go_ret
    exact ⟨rfl, rfl⟩
end Go.Proofs.YtapjbdigpleekaaGreat.Mp

/- Has of the one list of each kind of maps; the conditions are on what lies in memory. -/
set_option linter.unusedVariables false
set_option linter.unusedSimpArgs false
namespace Go.Proofs.YtapjbdigpleekaaGreat.Mp
open Go.RowKit Go.Proofs.YtapjbdigpleekaaGreat.K Go.Proofs.YtapjbdigpleekaaGreat.Cl
theorem jws_Has_crit (w : World) (g : Nat) (cs : Array Value) (A : Option Addr) (n c : Nat) (hb : Blk w g 191 cs) (hp : cs[3]? = some (.slice A n c)) :
    Calls Tryz.prog 170 #[.pointer (some ⟨g, 0, none⟩), .string ⟨#[99, 114, 105, 116]⟩] w (Says A.isSome w) := by
  have hc : w.cell? ⟨g, 3, none⟩ = some (.slice A n c) := by rw [hb.cell]; exact hp
  have hnil := fun W : World => Go.run_neq_slice_nil (P := Tryz.prog) W 23 9 A n c Tryz.underlying23
  clear hb hp
  go_enter Tryz.func170, Tryz.ntmps170
  go_wp2
  go_ret
  exact ⟨rfl, rfl⟩
theorem jwe_Has_crit (w : World) (g : Nat) (cs : Array Value) (A : Option Addr) (n c : Nat) (hb : Blk w g 198 cs) (hp : cs[6]? = some (.slice A n c)) :
    Calls Tryz.prog 207 #[.pointer (some ⟨g, 0, none⟩), .string ⟨#[99, 114, 105, 116]⟩] w (Says A.isSome w) := by
  have hc : w.cell? ⟨g, 6, none⟩ = some (.slice A n c) := by rw [hb.cell]; exact hp
  have hnil := fun W : World => Go.run_neq_slice_nil (P := Tryz.prog) W 23 9 A n c Tryz.underlying23
  clear hb hp
  go_enter Tryz.func207, Tryz.ntmps207
  go_wp2
  go_ret
  exact ⟨rfl, rfl⟩
theorem jwt_Has_aud (w : World) (g : Nat) (cs : Array Value) (A : Option Addr) (n c : Nat) (hb : Blk w g 208 cs) (hp : cs[1]? = some (.slice A n c)) :
    Calls Tryz.prog 261 #[.pointer (some ⟨g, 0, none⟩), .string ⟨#[97, 117, 100]⟩] w (Says A.isSome w) := by
  have hc : w.cell? ⟨g, 1, none⟩ = some (.slice A n c) := by rw [hb.cell]; exact hp
  have hnil := fun W : World => Go.run_neq_slice_nil (P := Tryz.prog) W 203 9 A n c Tryz.underlying203
  clear hb hp
  go_enter Tryz.func261, Tryz.ntmps261
  go_wp2
  go_ret
  exact ⟨rfl, rfl⟩
theorem oid_Has_aud (w : World) (g : Nat) (cs : Array Value) (A : Option Addr) (n c : Nat) (hb : Blk w g 205 cs) (hp : cs[1]? = some (.slice A n c)) :
    Calls Tryz.prog 234 #[.pointer (some ⟨g, 0, none⟩), .string ⟨#[97, 117, 100]⟩] w (Says A.isSome w) := by
  have hc : w.cell? ⟨g, 1, none⟩ = some (.slice A n c) := by rw [hb.cell]; exact hp
  have hnil := fun W : World => Go.run_neq_slice_nil (P := Tryz.prog) W 203 9 A n c Tryz.underlying203
  clear hb hp
  go_enter Tryz.func234, Tryz.ntmps234
  go_wp2
  go_ret
  exact ⟨rfl, rfl⟩
end Go.Proofs.YtapjbdigpleekaaGreat.Mp

/- Remove of each known name; the conditions are on what lies in memory. Printed by gen_mprem.py. -/
set_option linter.unusedVariables false
set_option linter.unusedSimpArgs false
namespace Go.Proofs.YtapjbdigpleekaaGreat.Mp
open Go.RowKit Go.Proofs.YtapjbdigpleekaaGreat.K Go.Proofs.YtapjbdigpleekaaGreat.Cl
/-- No error, and one cell is another. -/
def Puts (g T : Nat) (cs : Array Value) (w : World) (e : Ending) (w' : World) : Prop := e = .returned .nilIface ∧ Blk w' g T cs ∧ w.grownBy w' (some g) ∧ w'.heap.size = w.heap.size
theorem jws_Remove_cty (w : World) (g : Nat) (cs : Array Value) (u : Value) (hb : Blk w g 191 cs) (hp : cs[2]? = some u) :
    Calls Tryz.prog 175 #[.pointer (some ⟨g, 0, none⟩), .string ⟨#[99, 116, 121]⟩] w (Puts g 191 (cs.setIfInBounds 2 (.pointer none)) w) := by
  have hc : w.cell? ⟨g, 2, none⟩ = some u := by rw [hb.cell]; exact hp
  have hf : w.frozen? ⟨g, 2, none⟩ = false := hb.frozen 2
  have HB := Lib.hid hb
  clear hb hp
  go_enter Tryz.func175, Tryz.ntmps175
  go_wp2
  go_ret
  exact ⟨rfl, HB.out.set_ 2 _, setCell_grown _ _ _, by simp⟩
theorem jws_Remove_jku (w : World) (g : Nat) (cs : Array Value) (u : Value) (hb : Blk w g 191 cs) (hp : cs[4]? = some u) :
    Calls Tryz.prog 175 #[.pointer (some ⟨g, 0, none⟩), .string ⟨#[106, 107, 117]⟩] w (Puts g 191 (cs.setIfInBounds 4 (.pointer none)) w) := by
  have hc : w.cell? ⟨g, 4, none⟩ = some u := by rw [hb.cell]; exact hp
  have hf : w.frozen? ⟨g, 4, none⟩ = false := hb.frozen 4
  have HB := Lib.hid hb
  clear hb hp
  go_enter Tryz.func175, Tryz.ntmps175
  go_wp2
  go_ret
  exact ⟨rfl, HB.out.set_ 4 _, setCell_grown _ _ _, by simp⟩
theorem jws_Remove_kid (w : World) (g : Nat) (cs : Array Value) (u : Value) (hb : Blk w g 191 cs) (hp : cs[5]? = some u) :
    Calls Tryz.prog 175 #[.pointer (some ⟨g, 0, none⟩), .string ⟨#[107, 105, 100]⟩] w (Puts g 191 (cs.setIfInBounds 5 (.pointer none)) w) := by
  have hc : w.cell? ⟨g, 5, none⟩ = some u := by rw [hb.cell]; exact hp
  have hf : w.frozen? ⟨g, 5, none⟩ = false := hb.frozen 5
  have HB := Lib.hid hb
  clear hb hp
  go_enter Tryz.func175, Tryz.ntmps175
  go_wp2
  go_ret
  exact ⟨rfl, HB.out.set_ 5 _, setCell_grown _ _ _, by simp⟩
theorem jws_Remove_typ (w : World) (g : Nat) (cs : Array Value) (u : Value) (hb : Blk w g 191 cs) (hp : cs[6]? = some u) :
    Calls Tryz.prog 175 #[.pointer (some ⟨g, 0, none⟩), .string ⟨#[116, 121, 112]⟩] w (Puts g 191 (cs.setIfInBounds 6 (.pointer none)) w) := by
  have hc : w.cell? ⟨g, 6, none⟩ = some u := by rw [hb.cell]; exact hp
  have hf : w.frozen? ⟨g, 6, none⟩ = false := hb.frozen 6
  have HB := Lib.hid hb
  clear hb hp
  go_enter Tryz.func175, Tryz.ntmps175
  go_wp2
  go_ret
  exact ⟨rfl, HB.out.set_ 6 _, setCell_grown _ _ _, by simp⟩
theorem jws_Remove_x5t (w : World) (g : Nat) (cs : Array Value) (u : Value) (hb : Blk w g 191 cs) (hp : cs[7]? = some u) :
    Calls Tryz.prog 175 #[.pointer (some ⟨g, 0, none⟩), .string ⟨#[120, 53, 116]⟩] w (Puts g 191 (cs.setIfInBounds 7 (.pointer none)) w) := by
  have hc : w.cell? ⟨g, 7, none⟩ = some u := by rw [hb.cell]; exact hp
  have hf : w.frozen? ⟨g, 7, none⟩ = false := hb.frozen 7
  have HB := Lib.hid hb
  clear hb hp
  go_enter Tryz.func175, Tryz.ntmps175
  go_wp2
  go_ret
  exact ⟨rfl, HB.out.set_ 7 _, setCell_grown _ _ _, by simp⟩
theorem jws_Remove_x5t_S256 (w : World) (g : Nat) (cs : Array Value) (u : Value) (hb : Blk w g 191 cs) (hp : cs[8]? = some u) :
    Calls Tryz.prog 175 #[.pointer (some ⟨g, 0, none⟩), .string ⟨#[120, 53, 116, 35, 83, 50, 53, 54]⟩] w (Puts g 191 (cs.setIfInBounds 8 (.pointer none)) w) := by
  have hc : w.cell? ⟨g, 8, none⟩ = some u := by rw [hb.cell]; exact hp
  have hf : w.frozen? ⟨g, 8, none⟩ = false := hb.frozen 8
  have HB := Lib.hid hb
  clear hb hp
  go_enter Tryz.func175, Tryz.ntmps175
  go_wp2
  go_ret
  exact ⟨rfl, HB.out.set_ 8 _, setCell_grown _ _ _, by simp⟩
theorem jws_Remove_x5u (w : World) (g : Nat) (cs : Array Value) (u : Value) (hb : Blk w g 191 cs) (hp : cs[9]? = some u) :
    Calls Tryz.prog 175 #[.pointer (some ⟨g, 0, none⟩), .string ⟨#[120, 53, 117]⟩] w (Puts g 191 (cs.setIfInBounds 9 (.pointer none)) w) := by
  have hc : w.cell? ⟨g, 9, none⟩ = some u := by rw [hb.cell]; exact hp
  have hf : w.frozen? ⟨g, 9, none⟩ = false := hb.frozen 9
  have HB := Lib.hid hb
  clear hb hp
  go_enter Tryz.func175, Tryz.ntmps175
  go_wp2
  go_ret
  exact ⟨rfl, HB.out.set_ 9 _, setCell_grown _ _ _, by simp⟩
theorem jws_Remove_crit (w : World) (g : Nat) (cs : Array Value) (u : Value) (hb : Blk w g 191 cs) (hp : cs[3]? = some u) :
    Calls Tryz.prog 175 #[.pointer (some ⟨g, 0, none⟩), .string ⟨#[99, 114, 105, 116]⟩] w (Puts g 191 (cs.setIfInBounds 3 (.slice none 0 0)) w) := by
  have hc : w.cell? ⟨g, 3, none⟩ = some u := by rw [hb.cell]; exact hp
  have hf : w.frozen? ⟨g, 3, none⟩ = false := hb.frozen 3
  have HB := Lib.hid hb
  clear hb hp
  go_enter Tryz.func175, Tryz.ntmps175
  go_wp2
  go_ret
  exact ⟨rfl, HB.out.set_ 3 _, setCell_grown _ _ _, by simp⟩
theorem jwe_Remove_cty (w : World) (g : Nat) (cs : Array Value) (u : Value) (hb : Blk w g 198 cs) (hp : cs[5]? = some u) :
    Calls Tryz.prog 212 #[.pointer (some ⟨g, 0, none⟩), .string ⟨#[99, 116, 121]⟩] w (Puts g 198 (cs.setIfInBounds 5 (.pointer none)) w) := by
  have hc : w.cell? ⟨g, 5, none⟩ = some u := by rw [hb.cell]; exact hp
  have hf : w.frozen? ⟨g, 5, none⟩ = false := hb.frozen 5
  have HB := Lib.hid hb
  clear hb hp
  go_enter Tryz.func212, Tryz.ntmps212
  go_wp2
  go_ret
  exact ⟨rfl, HB.out.set_ 5 _, setCell_grown _ _ _, by simp⟩
theorem jwe_Remove_jku (w : World) (g : Nat) (cs : Array Value) (u : Value) (hb : Blk w g 198 cs) (hp : cs[7]? = some u) :
    Calls Tryz.prog 212 #[.pointer (some ⟨g, 0, none⟩), .string ⟨#[106, 107, 117]⟩] w (Puts g 198 (cs.setIfInBounds 7 (.pointer none)) w) := by
  have hc : w.cell? ⟨g, 7, none⟩ = some u := by rw [hb.cell]; exact hp
  have hf : w.frozen? ⟨g, 7, none⟩ = false := hb.frozen 7
  have HB := Lib.hid hb
  clear hb hp
  go_enter Tryz.func212, Tryz.ntmps212
  go_wp2
  go_ret
  exact ⟨rfl, HB.out.set_ 7 _, setCell_grown _ _ _, by simp⟩
theorem jwe_Remove_kid (w : World) (g : Nat) (cs : Array Value) (u : Value) (hb : Blk w g 198 cs) (hp : cs[8]? = some u) :
    Calls Tryz.prog 212 #[.pointer (some ⟨g, 0, none⟩), .string ⟨#[107, 105, 100]⟩] w (Puts g 198 (cs.setIfInBounds 8 (.pointer none)) w) := by
  have hc : w.cell? ⟨g, 8, none⟩ = some u := by rw [hb.cell]; exact hp
  have hf : w.frozen? ⟨g, 8, none⟩ = false := hb.frozen 8
  have HB := Lib.hid hb
  clear hb hp
  go_enter Tryz.func212, Tryz.ntmps212
  go_wp2
  go_ret
  exact ⟨rfl, HB.out.set_ 8 _, setCell_grown _ _ _, by simp⟩
theorem jwe_Remove_typ (w : World) (g : Nat) (cs : Array Value) (u : Value) (hb : Blk w g 198 cs) (hp : cs[9]? = some u) :
    Calls Tryz.prog 212 #[.pointer (some ⟨g, 0, none⟩), .string ⟨#[116, 121, 112]⟩] w (Puts g 198 (cs.setIfInBounds 9 (.pointer none)) w) := by
  have hc : w.cell? ⟨g, 9, none⟩ = some u := by rw [hb.cell]; exact hp
  have hf : w.frozen? ⟨g, 9, none⟩ = false := hb.frozen 9
  have HB := Lib.hid hb
  clear hb hp
  go_enter Tryz.func212, Tryz.ntmps212
  go_wp2
  go_ret
  exact ⟨rfl, HB.out.set_ 9 _, setCell_grown _ _ _, by simp⟩
theorem jwe_Remove_x5t (w : World) (g : Nat) (cs : Array Value) (u : Value) (hb : Blk w g 198 cs) (hp : cs[10]? = some u) :
    Calls Tryz.prog 212 #[.pointer (some ⟨g, 0, none⟩), .string ⟨#[120, 53, 116]⟩] w (Puts g 198 (cs.setIfInBounds 10 (.pointer none)) w) := by
  have hc : w.cell? ⟨g, 10, none⟩ = some u := by rw [hb.cell]; exact hp
  have hf : w.frozen? ⟨g, 10, none⟩ = false := hb.frozen 10
  have HB := Lib.hid hb
  clear hb hp
  go_enter Tryz.func212, Tryz.ntmps212
  go_wp2
  go_ret
  exact ⟨rfl, HB.out.set_ 10 _, setCell_grown _ _ _, by simp⟩
theorem jwe_Remove_x5t_S256 (w : World) (g : Nat) (cs : Array Value) (u : Value) (hb : Blk w g 198 cs) (hp : cs[11]? = some u) :
    Calls Tryz.prog 212 #[.pointer (some ⟨g, 0, none⟩), .string ⟨#[120, 53, 116, 35, 83, 50, 53, 54]⟩] w (Puts g 198 (cs.setIfInBounds 11 (.pointer none)) w) := by
  have hc : w.cell? ⟨g, 11, none⟩ = some u := by rw [hb.cell]; exact hp
  have hf : w.frozen? ⟨g, 11, none⟩ = false := hb.frozen 11
  have HB := Lib.hid hb
  clear hb hp
  go_enter Tryz.func212, Tryz.ntmps212
  go_wp2
  go_ret
  exact ⟨rfl, HB.out.set_ 11 _, setCell_grown _ _ _, by simp⟩
theorem jwe_Remove_x5u (w : World) (g : Nat) (cs : Array Value) (u : Value) (hb : Blk w g 198 cs) (hp : cs[12]? = some u) :
    Calls Tryz.prog 212 #[.pointer (some ⟨g, 0, none⟩), .string ⟨#[120, 53, 117]⟩] w (Puts g 198 (cs.setIfInBounds 12 (.pointer none)) w) := by
  have hc : w.cell? ⟨g, 12, none⟩ = some u := by rw [hb.cell]; exact hp
  have hf : w.frozen? ⟨g, 12, none⟩ = false := hb.frozen 12
  have HB := Lib.hid hb
  clear hb hp
  go_enter Tryz.func212, Tryz.ntmps212
  go_wp2
  go_ret
  exact ⟨rfl, HB.out.set_ 12 _, setCell_grown _ _ _, by simp⟩
theorem jwe_Remove_crit (w : World) (g : Nat) (cs : Array Value) (u : Value) (hb : Blk w g 198 cs) (hp : cs[6]? = some u) :
    Calls Tryz.prog 212 #[.pointer (some ⟨g, 0, none⟩), .string ⟨#[99, 114, 105, 116]⟩] w (Puts g 198 (cs.setIfInBounds 6 (.slice none 0 0)) w) := by
  have hc : w.cell? ⟨g, 6, none⟩ = some u := by rw [hb.cell]; exact hp
  have hf : w.frozen? ⟨g, 6, none⟩ = false := hb.frozen 6
  have HB := Lib.hid hb
  clear hb hp
  go_enter Tryz.func212, Tryz.ntmps212
  go_wp2
  go_ret
  exact ⟨rfl, HB.out.set_ 6 _, setCell_grown _ _ _, by simp⟩
theorem jwt_Remove_iss (w : World) (g : Nat) (cs : Array Value) (u : Value) (hb : Blk w g 208 cs) (hp : cs[2]? = some u) :
    Calls Tryz.prog 266 #[.pointer (some ⟨g, 0, none⟩), .string ⟨#[105, 115, 115]⟩] w (Puts g 208 (cs.setIfInBounds 2 (.pointer none)) w) := by
  have hc : w.cell? ⟨g, 2, none⟩ = some u := by rw [hb.cell]; exact hp
  have hf : w.frozen? ⟨g, 2, none⟩ = false := hb.frozen 2
  have HB := Lib.hid hb
  clear hb hp
  go_enter Tryz.func266, Tryz.ntmps266
  go_wp2
  go_ret
  exact ⟨rfl, HB.out.set_ 2 _, setCell_grown _ _ _, by simp⟩
theorem jwt_Remove_jti (w : World) (g : Nat) (cs : Array Value) (u : Value) (hb : Blk w g 208 cs) (hp : cs[3]? = some u) :
    Calls Tryz.prog 266 #[.pointer (some ⟨g, 0, none⟩), .string ⟨#[106, 116, 105]⟩] w (Puts g 208 (cs.setIfInBounds 3 (.pointer none)) w) := by
  have hc : w.cell? ⟨g, 3, none⟩ = some u := by rw [hb.cell]; exact hp
  have hf : w.frozen? ⟨g, 3, none⟩ = false := hb.frozen 3
  have HB := Lib.hid hb
  clear hb hp
  go_enter Tryz.func266, Tryz.ntmps266
  go_wp2
  go_ret
  exact ⟨rfl, HB.out.set_ 3 _, setCell_grown _ _ _, by simp⟩
theorem jwt_Remove_sub (w : World) (g : Nat) (cs : Array Value) (u : Value) (hb : Blk w g 208 cs) (hp : cs[4]? = some u) :
    Calls Tryz.prog 266 #[.pointer (some ⟨g, 0, none⟩), .string ⟨#[115, 117, 98]⟩] w (Puts g 208 (cs.setIfInBounds 4 (.pointer none)) w) := by
  have hc : w.cell? ⟨g, 4, none⟩ = some u := by rw [hb.cell]; exact hp
  have hf : w.frozen? ⟨g, 4, none⟩ = false := hb.frozen 4
  have HB := Lib.hid hb
  clear hb hp
  go_enter Tryz.func266, Tryz.ntmps266
  go_wp2
  go_ret
  exact ⟨rfl, HB.out.set_ 4 _, setCell_grown _ _ _, by simp⟩
theorem jwt_Remove_aud (w : World) (g : Nat) (cs : Array Value) (u : Value) (hb : Blk w g 208 cs) (hp : cs[1]? = some u) :
    Calls Tryz.prog 266 #[.pointer (some ⟨g, 0, none⟩), .string ⟨#[97, 117, 100]⟩] w (Puts g 208 (cs.setIfInBounds 1 (.slice none 0 0)) w) := by
  have hc : w.cell? ⟨g, 1, none⟩ = some u := by rw [hb.cell]; exact hp
  have hf : w.frozen? ⟨g, 1, none⟩ = false := hb.frozen 1
  have HB := Lib.hid hb
  clear hb hp
  go_enter Tryz.func266, Tryz.ntmps266
  go_wp2
  go_ret
  exact ⟨rfl, HB.out.set_ 1 _, setCell_grown _ _ _, by simp⟩
theorem oid_Remove_email (w : World) (g : Nat) (cs : Array Value) (u : Value) (hb : Blk w g 205 cs) (hp : cs[2]? = some u) :
    Calls Tryz.prog 248 #[.pointer (some ⟨g, 0, none⟩), .string ⟨#[101, 109, 97, 105, 108]⟩] w (Puts g 205 (cs.setIfInBounds 2 (.pointer none)) w) := by
  have hc : w.cell? ⟨g, 2, none⟩ = some u := by rw [hb.cell]; exact hp
  have hf : w.frozen? ⟨g, 2, none⟩ = false := hb.frozen 2
  have HB := Lib.hid hb
  clear hb hp
  go_enter Tryz.func248, Tryz.ntmps248
  go_wp2
  go_ret
  exact ⟨rfl, HB.out.set_ 2 _, setCell_grown _ _ _, by simp⟩
theorem oid_Remove_email_verified (w : World) (g : Nat) (cs : Array Value) (u : Value) (hb : Blk w g 205 cs) (hp : cs[3]? = some u) :
    Calls Tryz.prog 248 #[.pointer (some ⟨g, 0, none⟩), .string ⟨#[101, 109, 97, 105, 108, 95, 118, 101, 114, 105, 102, 105, 101, 100]⟩] w (Puts g 205 (cs.setIfInBounds 3 (.pointer none)) w) := by
  have hc : w.cell? ⟨g, 3, none⟩ = some u := by rw [hb.cell]; exact hp
  have hf : w.frozen? ⟨g, 3, none⟩ = false := hb.frozen 3
  have HB := Lib.hid hb
  clear hb hp
  go_enter Tryz.func248, Tryz.ntmps248
  go_wp2
  go_ret
  exact ⟨rfl, HB.out.set_ 3 _, setCell_grown _ _ _, by simp⟩
theorem oid_Remove_family_name (w : World) (g : Nat) (cs : Array Value) (u : Value) (hb : Blk w g 205 cs) (hp : cs[4]? = some u) :
    Calls Tryz.prog 248 #[.pointer (some ⟨g, 0, none⟩), .string ⟨#[102, 97, 109, 105, 108, 121, 95, 110, 97, 109, 101]⟩] w (Puts g 205 (cs.setIfInBounds 4 (.pointer none)) w) := by
  have hc : w.cell? ⟨g, 4, none⟩ = some u := by rw [hb.cell]; exact hp
  have hf : w.frozen? ⟨g, 4, none⟩ = false := hb.frozen 4
  have HB := Lib.hid hb
  clear hb hp
  go_enter Tryz.func248, Tryz.ntmps248
  go_wp2
  go_ret
  exact ⟨rfl, HB.out.set_ 4 _, setCell_grown _ _ _, by simp⟩
theorem oid_Remove_gender (w : World) (g : Nat) (cs : Array Value) (u : Value) (hb : Blk w g 205 cs) (hp : cs[5]? = some u) :
    Calls Tryz.prog 248 #[.pointer (some ⟨g, 0, none⟩), .string ⟨#[103, 101, 110, 100, 101, 114]⟩] w (Puts g 205 (cs.setIfInBounds 5 (.pointer none)) w) := by
  have hc : w.cell? ⟨g, 5, none⟩ = some u := by rw [hb.cell]; exact hp
  have hf : w.frozen? ⟨g, 5, none⟩ = false := hb.frozen 5
  have HB := Lib.hid hb
  clear hb hp
  go_enter Tryz.func248, Tryz.ntmps248
  go_wp2
  go_ret
  exact ⟨rfl, HB.out.set_ 5 _, setCell_grown _ _ _, by simp⟩
theorem oid_Remove_given_name (w : World) (g : Nat) (cs : Array Value) (u : Value) (hb : Blk w g 205 cs) (hp : cs[6]? = some u) :
    Calls Tryz.prog 248 #[.pointer (some ⟨g, 0, none⟩), .string ⟨#[103, 105, 118, 101, 110, 95, 110, 97, 109, 101]⟩] w (Puts g 205 (cs.setIfInBounds 6 (.pointer none)) w) := by
  have hc : w.cell? ⟨g, 6, none⟩ = some u := by rw [hb.cell]; exact hp
  have hf : w.frozen? ⟨g, 6, none⟩ = false := hb.frozen 6
  have HB := Lib.hid hb
  clear hb hp
  go_enter Tryz.func248, Tryz.ntmps248
  go_wp2
  go_ret
  exact ⟨rfl, HB.out.set_ 6 _, setCell_grown _ _ _, by simp⟩
theorem oid_Remove_iss (w : World) (g : Nat) (cs : Array Value) (u : Value) (hb : Blk w g 205 cs) (hp : cs[7]? = some u) :
    Calls Tryz.prog 248 #[.pointer (some ⟨g, 0, none⟩), .string ⟨#[105, 115, 115]⟩] w (Puts g 205 (cs.setIfInBounds 7 (.pointer none)) w) := by
  have hc : w.cell? ⟨g, 7, none⟩ = some u := by rw [hb.cell]; exact hp
  have hf : w.frozen? ⟨g, 7, none⟩ = false := hb.frozen 7
  have HB := Lib.hid hb
  clear hb hp
  go_enter Tryz.func248, Tryz.ntmps248
  go_wp2
  go_ret
  exact ⟨rfl, HB.out.set_ 7 _, setCell_grown _ _ _, by simp⟩
theorem oid_Remove_jti (w : World) (g : Nat) (cs : Array Value) (u : Value) (hb : Blk w g 205 cs) (hp : cs[8]? = some u) :
    Calls Tryz.prog 248 #[.pointer (some ⟨g, 0, none⟩), .string ⟨#[106, 116, 105]⟩] w (Puts g 205 (cs.setIfInBounds 8 (.pointer none)) w) := by
  have hc : w.cell? ⟨g, 8, none⟩ = some u := by rw [hb.cell]; exact hp
  have hf : w.frozen? ⟨g, 8, none⟩ = false := hb.frozen 8
  have HB := Lib.hid hb
  clear hb hp
  go_enter Tryz.func248, Tryz.ntmps248
  go_wp2
  go_ret
  exact ⟨rfl, HB.out.set_ 8 _, setCell_grown _ _ _, by simp⟩
theorem oid_Remove_locale (w : World) (g : Nat) (cs : Array Value) (u : Value) (hb : Blk w g 205 cs) (hp : cs[9]? = some u) :
    Calls Tryz.prog 248 #[.pointer (some ⟨g, 0, none⟩), .string ⟨#[108, 111, 99, 97, 108, 101]⟩] w (Puts g 205 (cs.setIfInBounds 9 (.pointer none)) w) := by
  have hc : w.cell? ⟨g, 9, none⟩ = some u := by rw [hb.cell]; exact hp
  have hf : w.frozen? ⟨g, 9, none⟩ = false := hb.frozen 9
  have HB := Lib.hid hb
  clear hb hp
  go_enter Tryz.func248, Tryz.ntmps248
  go_wp2
  go_ret
  exact ⟨rfl, HB.out.set_ 9 _, setCell_grown _ _ _, by simp⟩
theorem oid_Remove_middle_name (w : World) (g : Nat) (cs : Array Value) (u : Value) (hb : Blk w g 205 cs) (hp : cs[10]? = some u) :
    Calls Tryz.prog 248 #[.pointer (some ⟨g, 0, none⟩), .string ⟨#[109, 105, 100, 100, 108, 101, 95, 110, 97, 109, 101]⟩] w (Puts g 205 (cs.setIfInBounds 10 (.pointer none)) w) := by
  have hc : w.cell? ⟨g, 10, none⟩ = some u := by rw [hb.cell]; exact hp
  have hf : w.frozen? ⟨g, 10, none⟩ = false := hb.frozen 10
  have HB := Lib.hid hb
  clear hb hp
  go_enter Tryz.func248, Tryz.ntmps248
  go_wp2
  go_ret
  exact ⟨rfl, HB.out.set_ 10 _, setCell_grown _ _ _, by simp⟩
theorem oid_Remove_name (w : World) (g : Nat) (cs : Array Value) (u : Value) (hb : Blk w g 205 cs) (hp : cs[11]? = some u) :
    Calls Tryz.prog 248 #[.pointer (some ⟨g, 0, none⟩), .string ⟨#[110, 97, 109, 101]⟩] w (Puts g 205 (cs.setIfInBounds 11 (.pointer none)) w) := by
  have hc : w.cell? ⟨g, 11, none⟩ = some u := by rw [hb.cell]; exact hp
  have hf : w.frozen? ⟨g, 11, none⟩ = false := hb.frozen 11
  have HB := Lib.hid hb
  clear hb hp
  go_enter Tryz.func248, Tryz.ntmps248
  go_wp2
  go_ret
  exact ⟨rfl, HB.out.set_ 11 _, setCell_grown _ _ _, by simp⟩
theorem oid_Remove_nickname (w : World) (g : Nat) (cs : Array Value) (u : Value) (hb : Blk w g 205 cs) (hp : cs[12]? = some u) :
    Calls Tryz.prog 248 #[.pointer (some ⟨g, 0, none⟩), .string ⟨#[110, 105, 99, 107, 110, 97, 109, 101]⟩] w (Puts g 205 (cs.setIfInBounds 12 (.pointer none)) w) := by
  have hc : w.cell? ⟨g, 12, none⟩ = some u := by rw [hb.cell]; exact hp
  have hf : w.frozen? ⟨g, 12, none⟩ = false := hb.frozen 12
  have HB := Lib.hid hb
  clear hb hp
  go_enter Tryz.func248, Tryz.ntmps248
  go_wp2
  go_ret
  exact ⟨rfl, HB.out.set_ 12 _, setCell_grown _ _ _, by simp⟩
theorem oid_Remove_phone_number (w : World) (g : Nat) (cs : Array Value) (u : Value) (hb : Blk w g 205 cs) (hp : cs[13]? = some u) :
    Calls Tryz.prog 248 #[.pointer (some ⟨g, 0, none⟩), .string ⟨#[112, 104, 111, 110, 101, 95, 110, 117, 109, 98, 101, 114]⟩] w (Puts g 205 (cs.setIfInBounds 13 (.pointer none)) w) := by
  have hc : w.cell? ⟨g, 13, none⟩ = some u := by rw [hb.cell]; exact hp
  have hf : w.frozen? ⟨g, 13, none⟩ = false := hb.frozen 13
  have HB := Lib.hid hb
  clear hb hp
  go_enter Tryz.func248, Tryz.ntmps248
  go_wp2
  go_ret
  exact ⟨rfl, HB.out.set_ 13 _, setCell_grown _ _ _, by simp⟩
theorem oid_Remove_phone_number_verified (w : World) (g : Nat) (cs : Array Value) (u : Value) (hb : Blk w g 205 cs) (hp : cs[14]? = some u) :
    Calls Tryz.prog 248 #[.pointer (some ⟨g, 0, none⟩), .string ⟨#[112, 104, 111, 110, 101, 95, 110, 117, 109, 98, 101, 114, 95, 118, 101, 114, 105, 102, 105, 101, 100]⟩] w (Puts g 205 (cs.setIfInBounds 14 (.pointer none)) w) := by
  have hc : w.cell? ⟨g, 14, none⟩ = some u := by rw [hb.cell]; exact hp
  have hf : w.frozen? ⟨g, 14, none⟩ = false := hb.frozen 14
  have HB := Lib.hid hb
  clear hb hp
  go_enter Tryz.func248, Tryz.ntmps248
  go_wp2
  go_ret
  exact ⟨rfl, HB.out.set_ 14 _, setCell_grown _ _ _, by simp⟩
theorem oid_Remove_picture (w : World) (g : Nat) (cs : Array Value) (u : Value) (hb : Blk w g 205 cs) (hp : cs[15]? = some u) :
    Calls Tryz.prog 248 #[.pointer (some ⟨g, 0, none⟩), .string ⟨#[112, 105, 99, 116, 117, 114, 101]⟩] w (Puts g 205 (cs.setIfInBounds 15 (.pointer none)) w) := by
  have hc : w.cell? ⟨g, 15, none⟩ = some u := by rw [hb.cell]; exact hp
  have hf : w.frozen? ⟨g, 15, none⟩ = false := hb.frozen 15
  have HB := Lib.hid hb
  clear hb hp
  go_enter Tryz.func248, Tryz.ntmps248
  go_wp2
  go_ret
  exact ⟨rfl, HB.out.set_ 15 _, setCell_grown _ _ _, by simp⟩
theorem oid_Remove_preferred_username (w : World) (g : Nat) (cs : Array Value) (u : Value) (hb : Blk w g 205 cs) (hp : cs[16]? = some u) :
    Calls Tryz.prog 248 #[.pointer (some ⟨g, 0, none⟩), .string ⟨#[112, 114, 101, 102, 101, 114, 114, 101, 100, 95, 117, 115, 101, 114, 110, 97, 109, 101]⟩] w (Puts g 205 (cs.setIfInBounds 16 (.pointer none)) w) := by
  have hc : w.cell? ⟨g, 16, none⟩ = some u := by rw [hb.cell]; exact hp
  have hf : w.frozen? ⟨g, 16, none⟩ = false := hb.frozen 16
  have HB := Lib.hid hb
  clear hb hp
  go_enter Tryz.func248, Tryz.ntmps248
  go_wp2
  go_ret
  exact ⟨rfl, HB.out.set_ 16 _, setCell_grown _ _ _, by simp⟩
theorem oid_Remove_profile (w : World) (g : Nat) (cs : Array Value) (u : Value) (hb : Blk w g 205 cs) (hp : cs[17]? = some u) :
    Calls Tryz.prog 248 #[.pointer (some ⟨g, 0, none⟩), .string ⟨#[112, 114, 111, 102, 105, 108, 101]⟩] w (Puts g 205 (cs.setIfInBounds 17 (.pointer none)) w) := by
  have hc : w.cell? ⟨g, 17, none⟩ = some u := by rw [hb.cell]; exact hp
  have hf : w.frozen? ⟨g, 17, none⟩ = false := hb.frozen 17
  have HB := Lib.hid hb
  clear hb hp
  go_enter Tryz.func248, Tryz.ntmps248
  go_wp2
  go_ret
  exact ⟨rfl, HB.out.set_ 17 _, setCell_grown _ _ _, by simp⟩
theorem oid_Remove_sub (w : World) (g : Nat) (cs : Array Value) (u : Value) (hb : Blk w g 205 cs) (hp : cs[18]? = some u) :
    Calls Tryz.prog 248 #[.pointer (some ⟨g, 0, none⟩), .string ⟨#[115, 117, 98]⟩] w (Puts g 205 (cs.setIfInBounds 18 (.pointer none)) w) := by
  have hc : w.cell? ⟨g, 18, none⟩ = some u := by rw [hb.cell]; exact hp
  have hf : w.frozen? ⟨g, 18, none⟩ = false := hb.frozen 18
  have HB := Lib.hid hb
  clear hb hp
  go_enter Tryz.func248, Tryz.ntmps248
  go_wp2
  go_ret
  exact ⟨rfl, HB.out.set_ 18 _, setCell_grown _ _ _, by simp⟩
theorem oid_Remove_website (w : World) (g : Nat) (cs : Array Value) (u : Value) (hb : Blk w g 205 cs) (hp : cs[19]? = some u) :
    Calls Tryz.prog 248 #[.pointer (some ⟨g, 0, none⟩), .string ⟨#[119, 101, 98, 115, 105, 116, 101]⟩] w (Puts g 205 (cs.setIfInBounds 19 (.pointer none)) w) := by
  have hc : w.cell? ⟨g, 19, none⟩ = some u := by rw [hb.cell]; exact hp
  have hf : w.frozen? ⟨g, 19, none⟩ = false := hb.frozen 19
  have HB := Lib.hid hb
  clear hb hp
  go_enter Tryz.func248, Tryz.ntmps248
  go_wp2
  go_ret
  exact ⟨rfl, HB.out.set_ 19 _, setCell_grown _ _ _, by simp⟩
theorem oid_Remove_zoneinfo (w : World) (g : Nat) (cs : Array Value) (u : Value) (hb : Blk w g 205 cs) (hp : cs[20]? = some u) :
    Calls Tryz.prog 248 #[.pointer (some ⟨g, 0, none⟩), .string ⟨#[122, 111, 110, 101, 105, 110, 102, 111]⟩] w (Puts g 205 (cs.setIfInBounds 20 (.pointer none)) w) := by
  have hc : w.cell? ⟨g, 20, none⟩ = some u := by rw [hb.cell]; exact hp
  have hf : w.frozen? ⟨g, 20, none⟩ = false := hb.frozen 20
  have HB := Lib.hid hb
  clear hb hp
  go_enter Tryz.func248, Tryz.ntmps248
  go_wp2
  go_ret
  exact ⟨rfl, HB.out.set_ 20 _, setCell_grown _ _ _, by simp⟩
theorem oid_Remove_aud (w : World) (g : Nat) (cs : Array Value) (u : Value) (hb : Blk w g 205 cs) (hp : cs[1]? = some u) :
    Calls Tryz.prog 248 #[.pointer (some ⟨g, 0, none⟩), .string ⟨#[97, 117, 100]⟩] w (Puts g 205 (cs.setIfInBounds 1 (.slice none 0 0)) w) := by
  have hc : w.cell? ⟨g, 1, none⟩ = some u := by rw [hb.cell]; exact hp
  have hf : w.frozen? ⟨g, 1, none⟩ = false := hb.frozen 1
  have HB := Lib.hid hb
  clear hb hp
  go_enter Tryz.func248, Tryz.ntmps248
  go_wp2
  go_ret
  exact ⟨rfl, HB.out.set_ 1 _, setCell_grown _ _ _, by simp⟩
end Go.Proofs.YtapjbdigpleekaaGreat.Mp
