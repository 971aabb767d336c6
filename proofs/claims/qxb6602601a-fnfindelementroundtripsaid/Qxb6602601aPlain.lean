namespace Go.Proofs.Qxb6602601a.Plain

/-- What FindElement answers: where the element's data begin, and how many there are. -/
def findZ (one : Bool) (id : Int) (n : Nat) (Z : Nat → Int) : Nat → Nat → Option (Nat × Nat)
  | 0, _ => none
  | f + 1, i =>
    if i < n then
      if Z i = 0 then findZ one id n Z f (i + 1)
      else if one = true then
        if Z i / 16 = 0 ∨ Z i / 16 = 15 then none
        else if (n : Int) - ((i : Int) + 1) < Z i % 16 + 1 then none
        else if Z i / 16 = id then some (i + 1, (Z i % 16 + 1).toNat)
        else findZ one id n Z f (i + 1 + (Z i % 16 + 1).toNat)
      else if i + 1 = n then none
      else if (n : Int) - ((i : Int) + 2) < Z (i + 1) then none
      else if Z i = id then some (i + 2, (Z (i + 1)).toNat)
      else findZ one id n Z f (i + 2 + (Z (i + 1)).toNat)
    else none

end Go.Proofs.Qxb6602601a.Plain
