/-
  The plain functions of package spec, continued: the references of HTML.
-/
import Derived.Test.YtopmbledpalmdaaGreatDoorSpec
namespace Go.Proofs.YtopmbledpalmdaaGreatDoor

/-- A named reference. -/
structure Ref where
  name : Bs
  text : Bs
  legacy : Bool

/-- spec.entities: printed by program off the reference's own list. -/
def entitiesL : List Ref := [
  ⟨[97, 109, 112], [38], true⟩,
  ⟨[108, 116], [60], true⟩,
  ⟨[103, 116], [62], true⟩,
  ⟨[113, 117, 111, 116], [34], true⟩,
  ⟨[65, 77, 80], [38], true⟩,
  ⟨[76, 84], [60], true⟩,
  ⟨[110, 98, 115, 112], [194, 160], true⟩,
  ⟨[99, 111, 112, 121], [194, 169], true⟩,
  ⟨[114, 101, 103], [194, 174], true⟩,
  ⟨[97, 97, 99, 117, 116, 101], [195, 161], true⟩,
  ⟨[65, 97, 99, 117, 116, 101], [195, 129], true⟩,
  ⟨[101, 97, 99, 117, 116, 101], [195, 169], true⟩,
  ⟨[97, 117, 109, 108], [195, 164], true⟩,
  ⟨[111, 117, 109, 108], [195, 182], true⟩,
  ⟨[117, 117, 109, 108], [195, 188], true⟩,
  ⟨[115, 122, 108, 105, 103], [195, 159], true⟩,
  ⟨[99, 99, 101, 100, 105, 108], [195, 167], true⟩,
  ⟨[110, 116, 105, 108, 100, 101], [195, 177], true⟩,
  ⟨[112, 111, 117, 110, 100], [194, 163], true⟩,
  ⟨[121, 101, 110], [194, 165], true⟩,
  ⟨[99, 101, 110, 116], [194, 162], true⟩,
  ⟨[115, 101, 99, 116], [194, 167], true⟩,
  ⟨[112, 97, 114, 97], [194, 182], true⟩,
  ⟨[100, 101, 103], [194, 176], true⟩,
  ⟨[112, 108, 117, 115, 109, 110], [194, 177], true⟩,
  ⟨[116, 105, 109, 101, 115], [195, 151], true⟩,
  ⟨[100, 105, 118, 105, 100, 101], [195, 183], true⟩,
  ⟨[102, 114, 97, 99, 49, 50], [194, 189], true⟩,
  ⟨[108, 97, 113, 117, 111], [194, 171], true⟩,
  ⟨[114, 97, 113, 117, 111], [194, 187], true⟩,
  ⟨[109, 105, 100, 100, 111, 116], [194, 183], true⟩,
  ⟨[109, 105, 99, 114, 111], [194, 181], true⟩,
  ⟨[110, 111, 116], [194, 172], true⟩,
  ⟨[115, 104, 121], [194, 173], true⟩,
  ⟨[97, 112, 111, 115], [39], false⟩,
  ⟨[101, 117, 114, 111], [226, 130, 172], false⟩,
  ⟨[104, 101, 108, 108, 105, 112], [226, 128, 166], false⟩,
  ⟨[109, 100, 97, 115, 104], [226, 128, 148], false⟩,
  ⟨[110, 100, 97, 115, 104], [226, 128, 147], false⟩,
  ⟨[108, 115, 113, 117, 111], [226, 128, 152], false⟩,
  ⟨[114, 115, 113, 117, 111], [226, 128, 153], false⟩,
  ⟨[108, 100, 113, 117, 111], [226, 128, 156], false⟩,
  ⟨[114, 100, 113, 117, 111], [226, 128, 157], false⟩,
  ⟨[98, 117, 108, 108], [226, 128, 162], false⟩,
  ⟨[97, 108, 112, 104, 97], [206, 177], false⟩,
  ⟨[98, 101, 116, 97], [206, 178], false⟩,
  ⟨[108, 97, 114, 114], [226, 134, 144], false⟩,
  ⟨[114, 97, 114, 114], [226, 134, 146], false⟩,
  ⟨[105, 110, 102, 105, 110], [226, 136, 158], false⟩,
  ⟨[110, 101], [226, 137, 160], false⟩,
  ⟨[108, 101], [226, 137, 164], false⟩,
  ⟨[103, 101], [226, 137, 165], false⟩,
  ⟨[110, 111, 116, 105, 110], [226, 136, 137], false⟩,
  ⟨[78, 111, 116, 69, 113, 117, 97, 108, 84, 105, 108, 100, 101], [226, 137, 130, 204, 184], false⟩]

def strangeL : List Bs := [[122, 122, 122], [97, 109, 112, 120], [108, 116, 53], [103, 116, 113], [110, 111, 116, 105, 116], [110, 111, 116, 120], [99, 111, 112, 121, 55], [114, 101, 103, 113], [121, 101, 110, 57], [113, 113, 113], [120], [113], [97, 112, 111, 115], [101, 117, 114, 111], [104, 101, 108, 108, 105, 112], [97, 108, 112, 104, 97], [110, 111, 116, 105, 110], [78, 111, 116, 69, 113, 117, 97, 108, 84, 105, 108, 100, 101]]

/-- spec.Known at an ampersand: is the name behind it (in front of l) one that is known? -/
def knownAt (l : Bs) : Bool :=
  let w := wordL l
  (w.isEmpty || entitiesL.any fun e => e.name == w && (e.legacy || (l.drop w.length).head? == some 59)) || strangeL.any fun x => x == w
def knownL : Bs → Bool
  | [] => true
  | c :: r => if c == 38 then (if knownAt r then knownL r else false) else knownL r

/-- spec.Coded. -/
def codedL (n : Nat) : Bs :=
  if n < 128 then [UInt8.ofNat n]
  else if n < 2048 then [UInt8.ofNat (192 + n / 64), UInt8.ofNat (128 + n % 64)]
  else if n < 65536 then [UInt8.ofNat (224 + n / 4096), UInt8.ofNat (128 + n / 64 % 64), UInt8.ofNat (128 + n % 64)]
  else [UInt8.ofNat (240 + n / 262144), UInt8.ofNat (128 + n / 4096 % 64), UInt8.ofNat (128 + n / 64 % 64), UInt8.ofNat (128 + n % 64)]

def c1Table : List Nat := [8364, 129, 8218, 402, 8222, 8230, 8224, 8225, 710, 8240, 352, 8249, 338, 141, 381, 143, 144, 8216, 8217, 8220, 8221, 8226, 8211, 8212, 732, 8482, 353, 8250, 339, 157, 382, 376]

/-- spec.charOf. -/
def charOfL (n : Nat) : Nat :=
  if n = 0 ∨ 1114111 < n ∨ (55296 ≤ n ∧ n ≤ 57343) then 65533
  else if 128 ≤ n ∧ n < 160 then c1Table.getD (n - 128) 0
  else n

/-- The digits in front: what they come to (from v on), and how many they are. -/
def digitsL (base : Nat) : Nat → Bs → Nat × Nat
  | v, [] => (v, 0)
  | v, c :: r => if digV c < base then ((digitsL base (min (v * base + digV c) 1114112) r).1, (digitsL base (min (v * base + digV c) 1114112) r).2 + 1) else (v, 0)

/-- spec.numeric, of a text that begins with an ampersand and a #: what lies behind these two. -/
def numericL (l : Bs) : Option (Bs × Nat) :=
  let hx := l.head? == some 120 || l.head? == some 88
  let base := if hx then 16 else 10
  let d := digitsL base 0 (if hx then l.drop 1 else l)
  let at_ := (if hx then 3 else 2) + d.2
  if d.2 = 0 then none
  else some (codedL (charOfL d.1), if ((l.drop (at_ - 2)).head? == some 59) then at_ + 1 else at_)

/-- One named reference tried, w the letters and digits behind the ampersand, l what lies behind the ampersand. -/
def refTry (l w : Bs) (b : Bs × Nat) (e : Ref) : Bs × Nat :=
  let semi := (l.drop e.name.length).head? == some 59
  if w.length < e.name.length || w.take e.name.length != e.name || (!semi && !e.legacy) || (semi && decide (e.name.length < w.length) && !e.legacy) then b
  else
    let long := e.name.length + 1 + (if semi then 1 else 0)
    if long ≤ b.2 then b else (e.text, long)

/-- spec.Reference, of a text that begins with an ampersand: what lies behind it. -/
def referenceL (l : Bs) (inAttr : Bool) : Option (Bs × Nat) :=
  match l with
  | [] => none
  | c :: r =>
    if c == 35 then numericL r
    else
      let b := entitiesL.foldl (refTry l (wordL l)) ([], 0)
      if b.2 = 0 || (inAttr && (l.drop (b.2 - 2)).head? != some 59 && (match l.drop (b.2 - 1) with | [] => false | x :: _ => x == 61 || isAlnumB x)) then none
      else some b

/-- spec.Unescaped. -/
def unescF (inAttr : Bool) : Nat → Bs → Bs
  | 0, _ => []
  | _ + 1, [] => []
  | f + 1, c :: r =>
    if c == 38 then
      match referenceL r inAttr with
      | some (t, n) => t ++ unescF inAttr f ((c :: r).drop n)
      | none => c :: unescF inAttr f r
    else c :: unescF inAttr f r
def unescL (inAttr : Bool) (l : Bs) : Bs := unescF inAttr l.length l
end Go.Proofs.YtopmbledpalmdaaGreatDoor
