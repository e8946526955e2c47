/-
  WHERE THE MEMBERS ARE REACHED: the plain functions.
-/
import Derived.Test.Qxb6615757aWith
namespace Go.Proofs.Qxb6615757a
open Go.RowKit

def addOne (all : List Mem) (m : Mem) : List Mem := if (look all m.1).isSome then all else all ++ [m]
def addAll (all ms : List Mem) : List Mem := ms.foldl addOne all
def addrs (cfg : List Mem) (pend : List (List Mem)) : List Mem := pend.foldl addAll cfg
theorem addOne_length (all : List Mem) (m : Mem) : (addOne all m).length ≤ all.length + 1 := by
  unfold addOne
  split
  · omega
  · simp
theorem addAll_length (ms all : List Mem) : (addAll all ms).length ≤ all.length + ms.length := by
  unfold addAll
  induction ms generalizing all with
  | nil => simp
  | cons m ms ih =>
    have h1 := ih (addOne all m)
    have h2 := addOne_length all m
    simp only [List.foldl_cons, List.length_cons]
    omega
theorem addAll_take {ms : List Mem} {k : Nat} {m : Mem} (h : ms[k]? = some m) (all : List Mem) : addAll all (ms.take (k + 1)) = addOne (addAll all (ms.take k)) m := by
  unfold addAll
  rw [List.take_add_one, h]
  simp
theorem addrs_take {ps : List (List Mem)} {k : Nat} {ms : List Mem} (h : ps[k]? = some ms) (cfg : List Mem) : addrs cfg (ps.take (k + 1)) = addAll (addrs cfg (ps.take k)) ms := by
  unfold addrs
  rw [List.take_add_one, h]
  simp
end Go.Proofs.Qxb6615757a
