/-
  DERIVED. NO WALK HERE: the records of a list of bytes.
-/
import Derived.WalkKit
namespace Go.Proofs.YbulkgpsFmt
open Go

/-- Is the extended length flag set? -/
def ext (f : Int) : Bool := bits BinOp.and IntKind.u8 f 16 != 0
/-- The flags with the extended length flag set. -/
def setExt (f : Int) : Int := bits BinOp.or IntKind.u8 f 16

theorem setExt_fin : ∀ n : Fin 256, ext (setExt ((n.val : Nat) : Int)) = true ∧ 0 ≤ setExt ((n.val : Nat) : Int) ∧ setExt ((n.val : Nat) : Int) ≤ 255 := by decide +kernel
theorem setExt_ok (f : Int) (h0 : 0 ≤ f) (h1 : f ≤ 255) : ext (setExt f) = true ∧ 0 ≤ setExt f ∧ setExt f ≤ 255 := by
  have h := setExt_fin ⟨f.toNat, by omega⟩
  have e : ((f.toNat : Nat) : Int) = f := by omega
  simpa [e] using h

/-- The header's length. -/
def hdr (x : Int) : Nat := if ext x then 4 else 3
/-- The value's length, told by the octets behind flags and type. -/
def vlen (l : List Int) : Nat := (if ext (l.getD 0 0) then l.getD 2 0 * 256 + l.getD 3 0 else l.getD 2 0).toNat

/-- One record: flags, type, value. -/
abbrev Rec := Int × Int × List Int

/-- The records of the bytes that are left; none where a header or a value runs past the end. The first number: fuel. -/
def recs : Nat → List Int → Option (List Rec)
  | _, [] => some []
  | 0, _ :: _ => none
  | f + 1, x :: r =>
    if (x :: r).length < hdr x then none
    else if (x :: r).length < hdr x + vlen (x :: r) then none
    else (recs f ((x :: r).drop (hdr x + vlen (x :: r)))).map fun rs => (x, (x :: r).getD 1 0, ((x :: r).drop (hdr x)).take (vlen (x :: r))) :: rs

/-- What has been read, ahead of what is still to be read. -/
def addTo (acc : List Rec) (o : Option (List Rec)) : Option (List Rec) := o.map fun rs => acc ++ rs

theorem addTo_nil (o : Option (List Rec)) : addTo [] o = o := by cases o <;> simp [addTo]
theorem addTo_none (acc : List Rec) : addTo acc none = none := rfl
theorem addTo_some (acc rs : List Rec) : addTo acc (some rs) = some (acc ++ rs) := rfl
theorem addTo_cons (acc : List Rec) (r : Rec) (o : Option (List Rec)) : addTo acc (o.map fun rs => r :: rs) = addTo (acc ++ [r]) o := by cases o <;> simp [addTo]

theorem hdr_pos (x : Int) : 3 ≤ hdr x ∧ hdr x ≤ 4 := by unfold hdr; split <;> omega

theorem list_cons (l : List Int) (h : 0 < l.length) : ∃ x r, l = x :: r := by
  cases l with
  | nil => simp at h
  | cons x r => exact ⟨x, r, rfl⟩

section
variable {f : Nat} {l : List Int}

theorem recs_short (h : 0 < l.length) (hf : l.length ≤ f) (hs : l.length < hdr (l.getD 0 0)) : recs f l = none := by
  obtain ⟨x, r, rfl⟩ := list_cons l h
  cases f with
  | zero => simp at hf
  | succ f => rw [recs, if_pos (by simpa using hs)]

theorem recs_past (h : 0 < l.length) (hf : l.length ≤ f) (hs : l.length < hdr (l.getD 0 0) + vlen l) : recs f l = none := by
  obtain ⟨x, r, rfl⟩ := list_cons l h
  cases f with
  | zero => simp at hf
  | succ f =>
    rw [recs]
    split
    · rfl
    · rw [if_pos (by simpa using hs)]

theorem recs_step (h : 0 < l.length) (hf : l.length ≤ f) (hs : hdr (l.getD 0 0) + vlen l ≤ l.length) :
    recs f l = (recs (f - 1) (l.drop (hdr (l.getD 0 0) + vlen l))).map fun rs => (l.getD 0 0, l.getD 1 0, (l.drop (hdr (l.getD 0 0))).take (vlen l)) :: rs := by
  obtain ⟨x, r, rfl⟩ := list_cons l h
  cases f with
  | zero => simp at hf
  | succ f =>
    have hs' : hdr x + vlen (x :: r) ≤ (x :: r).length := by simpa using hs
    rw [recs, if_neg (by omega), if_neg (by omega)]
    rfl

theorem recs_nil (f : Nat) : recs f [] = some [] := by cases f <;> rfl
end
end Go.Proofs.YbulkgpsFmt
