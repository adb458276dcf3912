/- What the functions of package semver compute, as plain functions on lists of bytes, and the first laws on them. No program is in sight here; no condition. -/
namespace Go.Proofs.Ytienkoadkhcghaa.Sem

abbrev Bs := List UInt8

def isDig (c : UInt8) : Bool := 48 ≤ c && c ≤ 57
def isId (c : UInt8) : Bool := ((65 ≤ c && c ≤ 90) || (97 ≤ c && c ≤ 122)) || isDig c || c == 45

/-- a number without superfluous zeros at the beginning, and the rest -/
def parseInt (l : Bs) : Option (Bs × Bs) :=
  match l with
  | [] => none
  | c :: _ => if isDig c then (if c = 48 ∧ (l.takeWhile isDig).length ≠ 1 then none else some (l.takeWhile isDig, l.dropWhile isDig)) else none

def isNum (l : Bs) : Bool := l.all isDig
def isBad (l : Bs) : Bool := l.all isDig && decide (1 < l.length) && l.head? == some 48

/-- identifiers with points between them: 'num': numbers have no superfluous zeros -/
def chk (num : Bool) (cur : Bs) : Bs → Bool
  | [] => !cur.isEmpty && !(num && isBad cur)
  | c :: r => if c = 46 then (!cur.isEmpty && !(num && isBad cur)) && chk num [] r else isId c && chk num (cur ++ [c]) r

def parsePre (l : Bs) : Option (Bs × Bs) :=
  match l with
  | [] => none
  | c :: r => if c = 45 then (if chk true [] (r.takeWhile (· != 43)) then some (c :: r.takeWhile (· != 43), r.dropWhile (· != 43)) else none) else none

def parseBuild (l : Bs) : Option (Bs × Bs) :=
  match l with
  | [] => none
  | c :: r => if c = 43 then (if chk false [] r then some (l, []) else none) else none

structure Ver where
  major : Bs
  minor : Bs
  patch : Bs
  short : Bs
  pre : Bs
  build : Bs

/-- what stands behind the prerelease -/
def endTail (major minor patch pre : Bs) (l : Bs) : Option Ver :=
  match (if l.head? = some 43 then parseBuild l else some ([], l)) with
  | none => none
  | some (build, l) => if l = [] then some ⟨major, minor, patch, [], pre, build⟩ else none

/-- what stands behind the three numbers -/
def parseTail (major minor patch : Bs) (l : Bs) : Option Ver :=
  match (if l.head? = some 45 then parsePre l else some ([], l)) with
  | none => none
  | some (pre, l) => endTail major minor patch pre l

def parse (l : Bs) : Option Ver :=
  match l with
  | [] => none
  | c :: l =>
    if c = 118 then
      match parseInt l with
      | none => none
      | some (major, l) =>
        match l with
        | [] => some ⟨major, [48], [48], [46, 48, 46, 48], [], []⟩
        | c :: l =>
          if c = 46 then
            match parseInt l with
            | none => none
            | some (minor, l) =>
              match l with
              | [] => some ⟨major, minor, [48], [46, 48], [], []⟩
              | c :: l =>
                if c = 46 then
                  match parseInt l with
                  | none => none
                  | some (patch, l) => parseTail major minor patch l
                else none
          else none
    else none

/-- strings as Go compares them -/
def less : Bs → Bs → Bool
  | _, [] => false
  | [], _ :: _ => true
  | a :: x, b :: y => a < b || (a == b && less x y)

def cmpText (x y : Bs) : Int := if x = y then 0 else if less x y then -1 else 1
def cmpInt (x y : Bs) : Int := if x = y then 0 else if x.length < y.length then -1 else if y.length < x.length then 1 else if less x y then -1 else 1

/-- two identifiers -/
def cmpId (x y : Bs) : Int :=
  if x = y then 0 else
  if isNum x != isNum y then (if isNum x then -1 else 1) else
  if isNum x && decide (x.length < y.length) then -1 else
  if isNum x && decide (y.length < x.length) then 1 else
  if less x y then -1 else 1

/-- the parts of a text between points -/
def ids : Bs → List Bs
  | [] => [[]]
  | c :: r => if c = 46 then [] :: ids r else
    match ids r with
    | [] => [[c]]
    | x :: xs => (c :: x) :: xs

def cmpIds : List Bs → List Bs → Int
  | [], [] => 0
  | [], _ :: _ => -1
  | _ :: _, [] => 1
  | a :: x, b :: y => if a = b then cmpIds x y else cmpId a b

def cmpPre (x y : Bs) : Int :=
  if x = y then 0 else if x = [] then 1 else if y = [] then -1 else cmpIds (ids (x.drop 1)) (ids (y.drop 1))

def cmpVer (a b : Ver) : Int :=
  if cmpInt a.major b.major ≠ 0 then cmpInt a.major b.major else
  if cmpInt a.minor b.minor ≠ 0 then cmpInt a.minor b.minor else
  if cmpInt a.patch b.patch ≠ 0 then cmpInt a.patch b.patch else cmpPre a.pre b.pre

def compare (x y : Bs) : Int :=
  match parse x, parse y with
  | none, none => 0
  | none, some _ => -1
  | some _, none => 1
  | some a, some b => cmpVer a b

def isValid (x : Bs) : Bool := (parse x).isSome
def canonical (x : Bs) : Bs :=
  match parse x with
  | none => []
  | some p => if p.build ≠ [] then x.take (x.length - p.build.length) else if p.short ≠ [] then x ++ p.short else x
def majorOf (x : Bs) : Bs :=
  match parse x with
  | none => []
  | some p => x.take (1 + p.major.length)
def majorMinor (x : Bs) : Bs :=
  match parse x with
  | none => []
  | some p => if 1 + p.major.length + 1 + p.minor.length ≤ x.length ∧ x[1 + p.major.length]? = some 46 ∧ (x.drop (1 + p.major.length + 1)).take p.minor.length = p.minor
    then x.take (1 + p.major.length + 1 + p.minor.length) else x.take (1 + p.major.length) ++ [46] ++ p.minor
def prerelease (x : Bs) : Bs := match parse x with | none => [] | some p => p.pre
def build (x : Bs) : Bs := match parse x with | none => [] | some p => p.build
def maxV (x y : Bs) : Bs := if compare (canonical x) (canonical y) > 0 then canonical x else canonical y
def cmpVersion (x y : Bs) : Int := if compare x y ≠ 0 then compare x y else cmpText x y

end Go.Proofs.Ytienkoadkhcghaa.Sem
