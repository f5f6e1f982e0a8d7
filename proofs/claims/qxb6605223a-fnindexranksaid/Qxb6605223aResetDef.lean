/-
  What reset (22) leaves.
-/
import Derived.Test.Qxb6605223aIndex
import Derived.Test.Qxb6605223aKs
namespace Go.Proofs.Qxb6605223a

def IsS (v : Value) : Prop := ∃ a n c, v = .slice a n c

def Reseted (R F G : Nat) (rd ro ent wa : Value) (zs : List Int) (w : World) (e : Ending) (w' : World) : Prop :=
  e = .returned (.tuple #[]) ∧ (∃ kv rv ru fs due uv, FIs F G rd rv kv nilV false ru ro ent wa fs due uv w' ∧ IsS kv ∧ IsS fs ∧ IsS due ∧ IsS uv ∧ Ret F rv zs.length (hiOf zs) (loOf zs) w') ∧ Kp R F w w'
end Go.Proofs.Qxb6605223a
