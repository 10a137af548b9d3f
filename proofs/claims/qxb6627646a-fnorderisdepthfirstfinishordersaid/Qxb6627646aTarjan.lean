/-
  THE PLAIN FUNCTION: stronglyConnected's search, on plain data.
-/
namespace Go.Proofs.Qxb6627646a
set_option linter.unusedVariables false

def upd {α : Type} (f : Nat → α) (i : Nat) (v : α) : Nat → α := fun j => if j = i then v else f j

theorem upd_same {α : Type} (f : Nat → α) (i : Nat) (v : α) : upd f i v i = v := by simp [upd]
theorem upd_other {α : Type} (f : Nat → α) (i : Nat) (v : α) (j : Nat) (h : j ≠ i) : upd f i v j = f j := by simp [upd, h]

structure St where
  ord : Nat → Int
  low : Nat → Int
  on : Nat → Bool
  stack : List Nat
  comps : List (List Nat)
  next : Nat

/-- The search comes to node i. -/
def enterSt (i : Nat) (s : St) : St :=
  { s with ord := upd s.ord i s.next, low := upd s.low i s.next, next := s.next + 1, stack := s.stack ++ [i], on := upd s.on i true }

/-- The number that low[i] is held against is x. -/
def lowSt (i : Nat) (x : Int) (s : St) : St := { s with low := upd s.low i (min (s.low i) x) }

/-- One edge of node i. -/
def edgeSt (rec : St → Nat → St) (i : Nat) (s : St) (j : Nat) : St :=
  if s.ord j = -1 then lowSt i ((rec s j).low j) (rec s j)
  else if s.on j = true then lowSt i (s.ord j) s
  else s

/-- The stack (top first) is popped till i is found. -/
def popRev (i : Nat) : List Nat → (Nat → Bool) → List Nat → List Nat × (Nat → Bool) × List Nat
  | [], on, c => ([], on, c)
  | j :: r, on, c => if j = i then (r, upd on j false, c ++ [j]) else popRev i r (upd on j false) (c ++ [j])

def popSt (i : Nat) (s : St) : St :=
  { s with stack := (popRev i s.stack.reverse s.on []).1.reverse, on := (popRev i s.stack.reverse s.on []).2.1, comps := s.comps ++ [(popRev i s.stack.reverse s.on []).2.2] }

/-- All edges of node i are done. -/
def leaveSt (i : Nat) (s : St) : St := if s.low i = s.ord i then popSt i s else s

def visitSt (g : Nat → List Nat) : Nat → St → Nat → St
  | 0, s, _ => s
  | f + 1, s, i => leaveSt i ((g i).foldl (edgeSt (visitSt g f) i) (enterSt i s))

def startSt : St := { ord := fun _ => -1, low := fun _ => 0, on := fun _ => false, stack := [], comps := [], next := 0 }

/-- One start of the search. -/
def rootSt (g : Nat → List Nat) (f : Nat) (s : St) (i : Nat) : St := if s.ord i = -1 then visitSt g f s i else s

def searchSt (g : Nat → List Nat) (n : Nat) : St := (List.range n).foldl (rootSt g n) startSt

end Go.Proofs.Qxb6627646a
