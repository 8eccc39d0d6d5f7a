/- The walks of zzFits3 and spec.AreNames. The walks of taken and ZZIPs. -/
import Derived.Test.YtedniebpabfglaaGreatDoorHost
import Derived.Test.YtedniebpabfglaaGreatDoorFits
import Derived.Test.YtedniebpabfglaaGreatDoorUrl
import Derived.Test.YtedniebpabfglaaGreatDoorRight
section
namespace Go.Proofs.YtedniebpabfglaaGreatDoor
open Go.RowKit

/-- A slice of bytes. -/
def BytS (w : World) (v : Value) (l : List UInt8) : Prop :=
  ∃ A c, v = .slice A l.length c ∧ l.length ≤ maxLen ∧ ∀ j, j < l.length → ∃ ad, A = some ad ∧ w.cell? (ad.add j) = some (.int .u8 ((l.getD j 0).toNat : Int))
theorem BytS.ext {w w' : World} {v : Value} {l : List UInt8} (h : BytS w v l) (hx : Ext w w') : BytS w' v l := by
  obtain ⟨A, c, h1, h2, h3⟩ := h
  exact ⟨A, c, h1, h2, fun j hj => by
    obtain ⟨ad, e, hc⟩ := h3 j hj
    exact ⟨ad, e, hx.cell hc⟩⟩
/-- A slice of slices of bytes. -/
def RdB (w : World) (A : Option Addr) (n : Nat) (bs : List (List UInt8)) : Prop :=
  bs.length = n ∧ n ≤ 140737488355328 ∧ ∀ j, (h : j < bs.length) → ∃ ad v, A = some ad ∧ w.cell? (ad.add j) = some v ∧ BytS w v bs[j]
theorem RdB.ext {w w' : World} {A : Option Addr} {n : Nat} {bs : List (List UInt8)} (h : RdB w A n bs) (hx : Ext w w') : RdB w' A n bs :=
  ⟨h.1, h.2.1, fun j hj => by
    obtain ⟨ad, v, e, hc, hb⟩ := h.2.2 j hj
    exact ⟨ad, v, e, hx.cell hc, hb.ext hx⟩⟩
def AnyBool (w : World) (e : Ending) (w' : World) : Prop := ∃ b : Bool, e = .returned (.bool b) ∧ Ext w w'
def pMail (x : ByteArray) : Bool := Pl.isMail (bl x)
def pHost (x : ByteArray) : Bool := Pl.isHost (bl x)
def is4 (l : List UInt8) : Bool := l.length == 4
/-- Whether names are right. -/
def areN (d : List ByteArray) (bs : List (List UInt8)) (m u : List ByteArray) : Bool := bs.all is4 && decide (bs.length ≤ 6) && areP pNam d && areP pMail m && areP pHost u
end Go.Proofs.YtedniebpabfglaaGreatDoor
end
section
namespace Go.Proofs.YtedniebpabfglaaGreatDoor
open Go.RowKit

theorem info_ip : (Tryz.prog.info? 59).map (fun i => (i.zero, i.size, i.bytes)) = some (some (.slice none 0 0), 1, 24) := by kernel_rfl
theorem at0 {w : World} {base : Nat} {e : TypeId} : w.ownsRow base e 1 (.slice none 0 0) 0 [] := ⟨rfl, .inl ⟨rfl, rfl⟩⟩
theorem own_slice {w : World} {base n : Nat} {e : TypeId} {v : Value} {vs : List Value} (h : w.ownsRow base e 1 v n vs) : ∃ A c, v = .slice A n c := by
  rcases h.2 with ⟨rfl, rfl⟩ | ⟨g, cap, cur, rfl, _⟩
  · exact ⟨none, 0, rfl⟩
  · exact ⟨_, cap, rfl⟩
end Go.Proofs.YtedniebpabfglaaGreatDoor
end
