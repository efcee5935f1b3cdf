/-
  The plain functions of package spec, continued: a snippet's tokens. Each method of the reader is a function of what is left of the text.
-/
import Derived.Test.YtopmbledpalmdaaGreatDoorUnesc
namespace Go.Proofs.YtopmbledpalmdaaGreatDoor

structure Tok where
  ty : Nat
  data : Bs
  attr : List (Bs × Bs)

/-- (*snippet).blanks: how many. -/
def blanksL (l : Bs) : Nat := (l.takeWhile isSpaceB).length
/-- (*snippet).text. -/
def textL (toks : List Tok) (s : Bs) : List Tok :=
  if s = [] then toks
  else match toks.getLast? with
    | some t => if t.ty = 1 then toks.dropLast ++ [{ t with data := t.data ++ s }] else toks ++ [⟨1, s, []⟩]
    | none => toks ++ [⟨1, s, []⟩]
/-- (*snippet).value: the value, and how many bytes it takes; none: bad. -/
def valueL (l : Bs) : Option (Bs × Nat) :=
  match l with
  | [] => none
  | c :: r =>
    if c == 34 || c == 39 then
      let n := findL [c] r
      if n = r.length then none else some (unescL true (r.take n), n + 2)
    else
      let w := l.takeWhile fun x => !isSpaceB x && x != 62
      if w.any (hasL [34, 39, 60, 61, 96]) || w.isEmpty then none else some (unescL true w, w.length)
/-- (*snippet).tag behind the name: the attributes, and how many bytes up to and with the >; none: bad. -/
def attrsF : Nat → List (Bs × Bs) → Bs → Option (List (Bs × Bs) × Nat)
  | 0, _, _ => none
  | f + 1, acc, l =>
    let b := blanksL l
    match l.drop b with
    | [] => none
    | c :: r =>
      if c == 62 then some (acc, b + 1)
      else
        let w := wordL (c :: r)
        if w = [] then none
        else
          let b2 := blanksL ((c :: r).drop w.length)
          match (c :: r).drop (w.length + b2) with
          | [] => (attrsF f (acc ++ [(lowL w, [])]) []).map fun x => (x.1, b + w.length + b2 + x.2)
          | d :: q =>
            if d == 61 then
              let b3 := blanksL q
              match valueL (q.drop b3) with
              | none => none
              | some (v, n) => (attrsF f (acc ++ [(lowL w, v)]) (q.drop (b3 + n))).map fun x => (x.1, b + w.length + b2 + 1 + b3 + n + x.2)
            else (attrsF f (acc ++ [(lowL w, [])]) (d :: q)).map fun x => (x.1, b + w.length + b2 + x.2)
/-- (*snippet).tag from the name on: the token, and how many bytes. -/
def tagL (ty : Nat) (l : Bs) : Option (Tok × Nat) :=
  let w := wordL l
  (attrsF (l.length + 1) [] (l.drop w.length)).map fun x => (⟨ty, lowL w, x.1⟩, w.length + x.2)
end Go.Proofs.YtopmbledpalmdaaGreatDoor
