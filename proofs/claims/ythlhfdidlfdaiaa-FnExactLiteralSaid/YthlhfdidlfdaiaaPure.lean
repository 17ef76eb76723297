/- The plain functions: tokens, and whether two lists of tokens meet, as the package reckons it. No program here. -/
namespace Go.Proofs.Ythlhfdidlfdaiaa

inductive TK where
  | chr (r : Int)
  | dot
  | set (ks : List Int)
  deriving Inhabited

structure Tok where
  k : TK
  f : Int
  deriving Inhabited

/-- Whether two tokens have a letter in common. -/
def mt : TK → TK → Bool
  | .chr a, .chr b => a == b
  | .chr a, .set k => decide (a ∈ k)
  | .set k, .chr a => decide (a ∈ k)
  | .set j, .set k => j.any fun r => decide (r ∈ k)
  | _, _ => true

/-- The package's intersectNormal over what it does at a flag. -/
def normalWith (sp : List Tok → List Tok → Bool) : List Tok → List Tok → Bool
  | t1 :: r1, t2 :: r2 => if t1.f = 0 ∧ t2.f = 0 then mt t1.k t2.k && normalWith sp r1 r2 else sp (t1 :: r1) (t2 :: r2)
  | [], [] => true
  | _, _ => false

/-- The package's intersectStar: s the starred token, nx what follows it. -/
def starWith (nm : List Tok → List Tok → Bool) (s : Tok) (nx : List Tok) : List Tok → Bool
  | [] => nx.isEmpty
  | t :: r => (match nx with | [] => false | y :: _ => mt t.k y.k && nm nx (t :: r)) || (mt t.k s.k && starWith nm s nx r)

/-- The package's intersectPlus. -/
def plusWith (nm : List Tok → List Tok → Bool) (p : Tok) (nx : List Tok) (o : Tok) (r : List Tok) : Bool :=
  mt p.k o.k && (starWith nm p nx r || (o.f != 0 && nm nx (o :: r)))

/-- The package's intersectSpecial. -/
def spWith (nm : List Tok → List Tok → Bool) : List Tok → List Tok → Bool
  | t1 :: r1, t2 :: r2 =>
    if t1.f ≠ 0 then (if t1.f = 1 then plusWith nm t1 r1 t2 r2 else if t1.f = 2 then starWith nm t1 r1 (t2 :: r2) else false)
    else (if t2.f = 1 then plusWith nm t2 r2 t1 r1 else if t2.f = 2 then starWith nm t2 r2 (t1 :: r1) else false)
  | _, _ => false

/-- The package's intersectNormal; the number bounds the calls within calls. -/
def inter : Nat → List Tok → List Tok → Bool
  | 0 => fun _ _ => false
  | k + 1 => normalWith (spWith (inter k))

/-- How many pairs of tokens without flags match from the beginning on; none: one pair does not. -/
def pre : List Tok → List Tok → Option Nat
  | t1 :: r1, t2 :: r2 => if t1.f = 0 ∧ t2.f = 0 then (if mt t1.k t2.k then (pre r1 r2).map (· + 1) else none) else some 0
  | _, _ => some 0

/-- The package's trimGlobs behind its first loop. -/
def trimBack (a b : List Tok) : Option (List Tok × List Tok) :=
  match pre a.reverse b.reverse with
  | none => none
  | some c => some (a.take (a.length - (c - 1)), b.take (b.length - (c - 1)))

/-- The package's trimGlobs. -/
def trim (g1 g2 : List Tok) : Option (List Tok × List Tok) :=
  match pre g1 g2 with
  | none => none
  | some l => trimBack (g1.drop (l - 1)) (g2.drop (l - 1))

end Go.Proofs.Ythlhfdidlfdaiaa
