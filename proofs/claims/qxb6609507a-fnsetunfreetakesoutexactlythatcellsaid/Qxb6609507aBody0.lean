import Derived.Test.Qxb6609507aLoop4
import Derived.Test.Qxb6609507aBuildLem3
namespace Go.Proofs.Qxb6609507a.U
open Go.RowKit Go.Proofs.Qxb6609507a.Plain

theorem hid {p : Prop} (h : p) : Hid p := h
theorem then_imp {K : Act → World → Prop} {Q : Exit → Act → World → Prop} : ∀ (e : Exit) (a : Act) (w : World), Exit.then K (NoPanic Q) e a w → Exit.then K Q e a w := fun e a w h => by
  cases e <;> first | exact h | exact (h : False).elim
/-- Block n itself. -/
def blockAt (n : Nat) : Code → Option Code
  | .block m c => if m = n then some (.block m c) else blockAt n c
  | .seq a b => match blockAt n a with
    | some c => some c
    | none => blockAt n b
  | .loop c => blockAt n c
  | .scope c => blockAt n c
  | .cond _ a b => match blockAt n a with
    | some c => some c
    | none => blockAt n b
  | _ => none
/-- Region n itself. -/
def regionAt (n : Nat) : Code → Option Code
  | .region m o d => if m = n then some (.region m o d) else none
  | .block _ c => regionAt n c
  | .seq a b => match regionAt n a with
    | some c => some c
    | none => regionAt n b
  | .loop c => regionAt n c
  | .scope c => regionAt n c
  | .cond _ a b => match regionAt n a with
    | some c => some c
    | none => regionAt n b
  | _ => none
/-- The 'if' on slot n. -/
def condAt (n : Nat) : Code → Option Code
  | .block _ c => condAt n c
  | .seq a b => match condAt n a with
    | some c => some c
    | none => condAt n b
  | .loop c => condAt n c
  | .scope c => condAt n c
  | .cond (.tmp m) a b => if m = n then some (.cond (.tmp m) a b) else match condAt n a with
    | some c => some c
    | none => condAt n b
  | .cond _ a b => match condAt n a with
    | some c => some c
    | none => condAt n b
  | _ => none
end Go.Proofs.Qxb6609507a.U
