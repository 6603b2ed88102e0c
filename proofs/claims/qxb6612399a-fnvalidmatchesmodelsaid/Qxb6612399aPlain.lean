/- The plain law: a byte machine with a stack of brackets, and a recursive descent, accept the same lists of bytes. No Go in sight. -/
namespace Go.Proofs.Qxb6612399a

def isSp (c : Int) : Bool := c == 32 || c == 9 || c == 13 || c == 10
def isDg (c : Int) : Bool := decide (48 ≤ c) && decide (c ≤ 57)
def isHx (c : Int) : Bool := isDg c || (decide (97 ≤ c) && decide (c ≤ 102)) || (decide (65 ≤ c) && decide (c ≤ 70))
def isEsc (c : Int) : Bool := c == 34 || c == 92 || c == 47 || c == 98 || c == 102 || c == 110 || c == 114 || c == 116

/-- the machine: its state's number, the brackets open (innermost first; true: an object), whether the string at hand is a name, what is left of a literal, hex digits to come -/
structure S where
  st : Nat
  stk : List Bool
  key : Bool
  left : List Int
  hex : Nat

def mk (st : Nat) (stk : List Bool) : S := ⟨st, stk, false, [], 0⟩
def inStr (stk : List Bool) (k : Bool) : S := ⟨6, stk, k, [], 0⟩

def bgn (stk : List Bool) (c : Int) : Option S :=
  if c = 123 then (if stk.length = 10000 then none else some (mk 2 (true :: stk)))
  else if c = 91 then (if stk.length = 10000 then none else some (mk 1 (false :: stk)))
  else if c = 34 then some (inStr stk false)
  else if c = 116 then some ⟨9, stk, false, [114, 117, 101], 0⟩
  else if c = 102 then some ⟨9, stk, false, [97, 108, 115, 101], 0⟩
  else if c = 110 then some ⟨9, stk, false, [117, 108, 108], 0⟩
  else if c = 45 then some (mk 10 stk)
  else if c = 48 then some (mk 11 stk)
  else if 49 ≤ c ∧ c ≤ 57 then some (mk 12 stk)
  else none

def flw (stk : List Bool) (c : Int) : Option S :=
  if isSp c then some (mk 5 stk)
  else match stk with
    | [] => none
    | b :: r =>
      if c = 44 then (if b then some (mk 3 stk) else some (mk 0 stk))
      else if c = 125 ∧ b = true then some (mk 5 r)
      else if c = 93 ∧ b = false then some (mk 5 r)
      else none

/-- one byte -/
def nxt (s : S) (c : Int) : Option S :=
  match s.st with
  | 0 => if isSp c then some s else bgn s.stk c
  | 1 => if isSp c then some s else if c = 93 then some (mk 5 s.stk.tail) else bgn s.stk c
  | 2 => if isSp c then some s else if c = 34 then some (inStr s.stk true) else if c = 125 then some (mk 5 s.stk.tail) else none
  | 3 => if isSp c then some s else if c = 34 then some (inStr s.stk true) else none
  | 4 => if isSp c then some s else if c = 58 then some (mk 0 s.stk) else none
  | 5 => flw s.stk c
  | 6 => if c = 34 then some (mk (if s.key then 4 else 5) s.stk) else if c = 92 then some ⟨7, s.stk, s.key, [], 0⟩ else if c < 32 then none else some s
  | 7 => if isEsc c then some (inStr s.stk s.key) else if c = 117 then some ⟨8, s.stk, s.key, [], 4⟩ else none
  | 8 => if isHx c then (if s.hex = 1 then some (inStr s.stk s.key) else some ⟨8, s.stk, s.key, [], s.hex - 1⟩) else none
  | 9 => match s.left with
    | [] => none
    | a :: r => if c = a then (if r = [] then some (mk 5 s.stk) else some ⟨9, s.stk, false, r, 0⟩) else none
  | 10 => if c = 48 then some (mk 11 s.stk) else if isDg c then some (mk 12 s.stk) else none
  | 11 => if c = 46 then some (mk 13 s.stk) else if c = 101 ∨ c = 69 then some (mk 15 s.stk) else flw s.stk c
  | 12 => if isDg c then some s else if c = 46 then some (mk 13 s.stk) else if c = 101 ∨ c = 69 then some (mk 15 s.stk) else flw s.stk c
  | 13 => if isDg c then some (mk 14 s.stk) else none
  | 14 => if isDg c then some s else if c = 101 ∨ c = 69 then some (mk 15 s.stk) else flw s.stk c
  | 15 => if c = 43 ∨ c = 45 then some (mk 16 s.stk) else if isDg c then some (mk 17 s.stk) else none
  | 16 => if isDg c then some (mk 17 s.stk) else none
  | 17 => if isDg c then some s else flw s.stk c
  | _ => none

def final (s : S) : Bool := (s.st == 5 || s.st == 11 || s.st == 12 || s.st == 14 || s.st == 17) && s.stk.isEmpty

def Acc : S → List Int → Bool
  | s, [] => final s
  | s, c :: l => match nxt s c with
    | none => false
    | some s' => Acc s' l

/-! ### the recursive descent -/

def skip : List Int → List Int
  | [] => []
  | c :: l => if isSp c then skip l else c :: l

def str : List Int → Option (List Int)
  | [] => none
  | c :: l =>
    if c = 34 then some l
    else if c < 32 then none
    else if c = 92 then
      match l with
      | [] => none
      | e :: r =>
        if isEsc e then str r
        else if e = 117 then
          match r with
          | h1 :: h2 :: h3 :: h4 :: r' => if isHx h1 && isHx h2 && isHx h3 && isHx h4 then str r' else none
          | _ => none
        else none
    else str l

def word : List Int → List Int → Option (List Int)
  | [], l => some l
  | _ :: _, [] => none
  | a :: w, c :: l => if c = a then word w l else none

def digits : List Int → List Int
  | [] => []
  | c :: l => if isDg c then digits l else c :: l

def expS (l : List Int) : Option (List Int) :=
  match l with
  | [] => none
  | c :: r => if isDg c then some (digits r) else none

def expo (l : List Int) : Option (List Int) :=
  match l with
  | [] => some []
  | c :: r => if c = 101 ∨ c = 69 then (match r with | [] => none | d :: r' => if d = 43 ∨ d = 45 then expS r' else expS r) else some l

def frac (l : List Int) : Option (List Int) :=
  match l with
  | [] => some []
  | c :: r => if c = 46 then (match r with | [] => none | d :: r' => if isDg d then expo (digits r') else none) else expo l

def num1 (l : List Int) : Option (List Int) :=
  match l with
  | [] => none
  | c :: r => if c = 48 then frac r else if 49 ≤ c ∧ c ≤ 57 then frac (digits r) else none

def num (l : List Int) : Option (List Int) :=
  match l with
  | [] => none
  | c :: r => if c = 45 then num1 r else num1 l

def scalar (l : List Int) : Option (List Int) :=
  match l with
  | [] => none
  | c :: r =>
    if c = 34 then str r
    else if c = 116 then word [114, 117, 101] r
    else if c = 102 then word [97, 108, 115, 101] r
    else if c = 110 then word [117, 108, 108] r
    else if c = 45 ∨ isDg c = true then num l
    else none

def elLoop (v : List Int → Option (List Int)) : Nat → List Int → Option (List Int)
  | 0, _ => none
  | g + 1, l => match v (skip l) with
    | none => none
    | some l1 => match skip l1 with
      | [] => none
      | c :: r => if c = 93 then some r else if c = 44 then elLoop v g r else none

def elems (v : List Int → Option (List Int)) (l : List Int) : Option (List Int) :=
  match skip l with
  | [] => elLoop v 1 []
  | c :: r => if c = 93 then some r else elLoop v (r.length + 2) (c :: r)

def mbLoop (v : List Int → Option (List Int)) : Nat → List Int → Option (List Int)
  | 0, _ => none
  | g + 1, l => match skip l with
    | [] => none
    | q :: r0 => if q = 34 then
        (match str r0 with
        | none => none
        | some l1 => match skip l1 with
          | [] => none
          | d :: r1 => if d = 58 then
              (match v (skip r1) with
              | none => none
              | some l2 => match skip l2 with
                | [] => none
                | c :: r => if c = 125 then some r else if c = 44 then mbLoop v g r else none)
            else none)
      else none

def membs (v : List Int → Option (List Int)) (l : List Int) : Option (List Int) :=
  match skip l with
  | [] => mbLoop v 1 []
  | c :: r => if c = 125 then some r else mbLoop v (r.length + 2) (c :: r)

/-- m: how many brackets may still be opened -/
def val : Nat → List Int → Option (List Int)
  | 0, l => scalar l
  | m + 1, l => match l with
    | [] => none
    | c :: r => if c = 91 then elems (val m) r else if c = 123 then membs (val m) r else scalar l

def okJ (l : List Int) : Bool :=
  match val 10000 (skip l) with
  | none => false
  | some l' => (skip l').isEmpty

end Go.Proofs.Qxb6612399a
