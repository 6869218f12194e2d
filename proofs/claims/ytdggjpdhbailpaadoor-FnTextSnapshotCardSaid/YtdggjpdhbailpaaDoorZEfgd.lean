/- What fmtEFG computes, as functions of numbers and lists: turned from a printed text. -/
import Derived.Test.YtdggjpdhbailpaaDoorZWords
namespace Go.Proofs.YtdggjpdhbailpaaDoor.Efgd
open Go.Proofs.YtdggjpdhbailpaaDoor.PFnTextAscii Go.RowKit Go.Proofs.YtdggjpdhbailpaaDoorW.PrintWords Go.Proofs.YtdggjpdhbailpaaDoorW.PrintLast Go.Proofs.YtdggjpdhbailpaaDoorW.PrintMore
attribute [local go_sem] max2_int min2_int max_two min_two max_three min_three max_four min_four   -- for this text's walks alone
set_option linter.unusedVariables false
set_option linter.unusedSimpArgs false

/-! ### strconv_fmtEFG: function 105 -/
mutual
def strconv_fmtEFG.j0 : Nat → List Int → Bool → List Int → Int → Int → Int → Int → Bool → Bool → Option (List Int)
  | 0, _, _, _, _, _, _, _, _, _ => none
  | k + 1, x0, x1, x2, x3, x4, x5, x6, x7, x36 => if x36 = true then (if x5 > x4 then (strconv_fmtEFG.j1 k x0 x1 x2 x3 x4 x5 x6 x7 x5 (decide (x4 ≥ x3))) else (strconv_fmtEFG.j1 k x0 x1 x2 x3 x4 x5 x6 x7 x5 false)) else (strconv_fmtEFG.j5 k x0 x1 x2 x3 x4 x5 x6)
def strconv_fmtEFG.j5 : Nat → List Int → Bool → List Int → Int → Int → Int → Int → Option (List Int)
  | 0, _, _, _, _, _, _, _ => none
  | k + 1, x0, x1, x2, x3, x4, x5, x6 => if x6 = 101 then (strconv_fmtEFG.j6 k x0 x1 x2 x3 x4 x5 x6 x6 (x6 == 101)) else (strconv_fmtEFG.j6 k x0 x1 x2 x3 x4 x5 x6 x6 (x6 == 69))
def strconv_fmtEFG.j6 : Nat → List Int → Bool → List Int → Int → Int → Int → Int → Int → Bool → Option (List Int)
  | 0, _, _, _, _, _, _, _, _, _ => none
  | k + 1, x0, x1, x2, x3, x4, x5, x6, x74, x75 => if x75 = true then (if x1 = true then (if x0.length < 140737488355328 then (strconv_fmtEFG.j7 k (x0 ++ [45]) x2 x3 x4 x5 x6) else (none)) else (strconv_fmtEFG.j7 k x0 x2 x3 x4 x5 x6)) else (if x74 = 102 then (if x1 = true then (if x0.length < 140737488355328 then (strconv_fmtEFG.j14 k (x0 ++ [45]) x2 x3 x4 x5) else (none)) else (strconv_fmtEFG.j14 k x0 x2 x3 x4 x5)) else ((some (([37, x6] : List Int) : List Int)).bind fun y263 => (if x0.length + y263.length < 140737488355328 then (some (x0 ++ y263)) else (none))))
def strconv_fmtEFG.j7 : Nat → List Int → List Int → Int → Int → Int → Int → Option (List Int)
  | 0, _, _, _, _, _, _ => none
  | k + 1, x0, x2, x3, x4, x5, x6 => if x4 = 0 then (strconv_fmtEFG.j8 k x0 x2 x3 x4 x5 x6 48) else (if 0 < (x2.length : Int) then (strconv_fmtEFG.j8 k x0 x2 x3 x4 x5 x6 (rd x2 0)) else (none))
def strconv_fmtEFG.j8 : Nat → List Int → List Int → Int → Int → Int → Int → Int → Option (List Int)
  | 0, _, _, _, _, _, _, _ => none
  | k + 1, x0, x2, x3, x4, x5, x6, x19 => if x0.length < 140737488355328 then ((some (x0 ++ [x19] : List Int)).bind fun y193 => (if x5 > 0 then (if y193.length < 140737488355328 then ((some (y193 ++ [46] : List Int)).bind fun y196 => (if 1 < (mn x4 (wrap64 (x5 + 1))) then (if 1 ≤ (mn x4 (wrap64 (x5 + 1))) then (if (mn x4 (wrap64 (x5 + 1))) ≤ (x2.length : Int) then ((some ((x2.take ((mn x4 (wrap64 (x5 + 1))) : Int).toNat).drop 1 : List Int)).bind fun y199 => (if y196.length + y199.length < 140737488355328 then (strconv_fmtEFG.j9 k (y196 ++ y199) x3 x4 x5 x6 (mn x4 (wrap64 (x5 + 1)))) else (none))) else (none)) else (none)) else (strconv_fmtEFG.j9 k y196 x3 x4 x5 x6 1))) else (none)) else (strconv_fmtEFG.j11 k y193 x3 x4 x6))) else (none)
def strconv_fmtEFG.j11 : Nat → List Int → Int → Int → Int → Option (List Int)
  | 0, _, _, _, _ => none
  | k + 1, x0, x3, x4, x6 => if x0.length < 140737488355328 then ((some (x0 ++ [x6] : List Int)).bind fun y209 => (if x4 = 0 then (strconv_fmtEFG.j12 k y209 0) else (strconv_fmtEFG.j12 k y209 (wrap64 (x3 - 1))))) else (none)
def strconv_fmtEFG.j12 : Nat → List Int → Int → Option (List Int)
  | 0, _, _ => none
  | k + 1, x0, x22 => if x22 < 0 then (strconv_fmtEFG.j13 k x0 45 (wrap64 (-x22))) else (strconv_fmtEFG.j13 k x0 43 x22)
def strconv_fmtEFG.j13 : Nat → List Int → Int → Int → Option (List Int)
  | 0, _, _, _ => none
  | k + 1, x0, x19, x22 => if x0.length < 140737488355328 then ((some (x0 ++ [x19] : List Int)).bind fun y212 => (if x22 < 10 then ((some (([48, (((x22) % 256) + 48) % 256] : List Int) : List Int)).bind fun y215 => (if y212.length + y215.length < 140737488355328 then (some (y212 ++ y215)) else (none))) else (if x22 < 100 then ((some (([(((wrap64 (Int.tdiv x22 10)) % 256) + 48) % 256, (((Int.tmod x22 10) % 256) + 48) % 256] : List Int) : List Int)).bind fun y221 => (if y212.length + y221.length < 140737488355328 then (some (y212 ++ y221)) else (none))) else ((some (([(((wrap64 (Int.tdiv x22 100)) % 256) + 48) % 256, (((wrap64 (Int.tdiv x22 10)) % 256) % 10) + 48, (((Int.tmod x22 10) % 256) + 48) % 256] : List Int) : List Int)).bind fun y227 => (if y212.length + y227.length < 140737488355328 then (some (y212 ++ y227)) else (none)))))) else (none)
def strconv_fmtEFG.j9 : Nat → List Int → Int → Int → Int → Int → Int → Option (List Int)
  | 0, _, _, _, _, _, _ => none
  | k + 1, x0, x3, x4, x5, x6, x20 => strconv_fmtEFG.l0 k x0 x3 x4 x6 (wrap64 ((wrap64 (x5 + 1)) - x20)) 0
def strconv_fmtEFG.l0 : Nat → List Int → Int → Int → Int → Int → Int → Option (List Int)
  | 0, _, _, _, _, _, _ => none
  | k + 1, x0, x3, x4, x6, x113, x114 => if x114 < x113 then (if x0.length < 140737488355328 then (strconv_fmtEFG.l0 k (x0 ++ [48]) x3 x4 x6 x113 (wrap64 (x114 + 1))) else (none)) else (strconv_fmtEFG.j11 k x0 x3 x4 x6)
def strconv_fmtEFG.j14 : Nat → List Int → List Int → Int → Int → Int → Option (List Int)
  | 0, _, _, _, _, _ => none
  | k + 1, x0, x2, x3, x4, x5 => if x3 > 0 then (if 0 ≤ (mn x4 x3) then (if (mn x4 x3) ≤ (x2.length : Int) then ((some (x2.take ((mn x4 x3) : Int).toNat : List Int)).bind fun y236 => (strconv_fmtEFG.l1 k x0 x2 x3 x4 x5 (mn x4 x3) y236 (y236.length : Int) 0)) else (none)) else (none)) else (if x0.length < 140737488355328 then (strconv_fmtEFG.j17 k (x0 ++ [48]) x2 x3 x4 x5) else (none))
def strconv_fmtEFG.j17 : Nat → List Int → List Int → Int → Int → Int → Option (List Int)
  | 0, _, _, _, _, _ => none
  | k + 1, x0, x2, x3, x4, x5 => if x5 > 0 then (if x0.length < 140737488355328 then (strconv_fmtEFG.l3 k (x0 ++ [46]) x2 (wrap64 (x3 + (mn x5 (mx 0 (wrap64 (-x3)))))) (mn (wrap64 (x5 - (mn x5 (mx 0 (wrap64 (-x3)))))) (mx 0 (wrap64 (x4 - (wrap64 (x3 + (mn x5 (mx 0 (wrap64 (-x3)))))))))) (mx 0 (wrap64 ((wrap64 (x5 - (mn x5 (mx 0 (wrap64 (-x3)))))) - (mn (wrap64 (x5 - (mn x5 (mx 0 (wrap64 (-x3)))))) (mx 0 (wrap64 (x4 - (wrap64 (x3 + (mn x5 (mx 0 (wrap64 (-x3))))))))))))) (mn x5 (mx 0 (wrap64 (-x3)))) 0) else (none)) else (some x0)
def strconv_fmtEFG.l3 : Nat → List Int → List Int → Int → Int → Int → Int → Int → Option (List Int)
  | 0, _, _, _, _, _, _, _ => none
  | k + 1, x0, x2, x27, x28, x29, x239, x240 => if x240 < x239 then (if x0.length < 140737488355328 then (strconv_fmtEFG.l3 k (x0 ++ [48]) x2 x27 x28 x29 x239 (wrap64 (x240 + 1))) else (none)) else (strconv_fmtEFG.l4 k x0 x2 x27 x29 x28 0)
def strconv_fmtEFG.l4 : Nat → List Int → List Int → Int → Int → Int → Int → Option (List Int)
  | 0, _, _, _, _, _, _ => none
  | k + 1, x0, x2, x27, x29, x246, x247 => if x247 < x246 then (if 0 ≤ (wrap64 (x27 + x247)) then (if (wrap64 (x27 + x247)) < (x2.length : Int) then (if x0.length < 140737488355328 then (strconv_fmtEFG.l4 k (x0 ++ [rd x2 (wrap64 (x27 + x247))]) x2 x27 x29 x246 (wrap64 (x247 + 1))) else (none)) else (none)) else (none)) else (strconv_fmtEFG.l5 k x0 x29 0)
def strconv_fmtEFG.l5 : Nat → List Int → Int → Int → Option (List Int)
  | 0, _, _, _ => none
  | k + 1, x0, x260, x261 => if x261 < x260 then (if x0.length < 140737488355328 then (strconv_fmtEFG.l5 k (x0 ++ [48]) x260 (wrap64 (x261 + 1))) else (none)) else (some x0)
def strconv_fmtEFG.l1 : Nat → List Int → List Int → Int → Int → Int → Int → List Int → Int → Int → Option (List Int)
  | 0, _, _, _, _, _, _, _, _, _ => none
  | k + 1, x0, x2, x3, x4, x5, x23, x189, x190, x191 => if x191 < x190 then (if 0 ≤ x191 then (if x191 < (x189.length : Int) then (if x0.length < 140737488355328 then (strconv_fmtEFG.l1 k (x0 ++ [rd x189 x191]) x2 x3 x4 x5 x23 x189 x190 (wrap64 (x191 + 1))) else (none)) else (none)) else (none)) else (strconv_fmtEFG.l2 k x0 x2 x3 x4 x5 (wrap64 (x3 - x23)) 0)
def strconv_fmtEFG.l2 : Nat → List Int → List Int → Int → Int → Int → Int → Int → Option (List Int)
  | 0, _, _, _, _, _, _, _ => none
  | k + 1, x0, x2, x3, x4, x5, x202, x203 => if x203 < x202 then (if x0.length < 140737488355328 then (strconv_fmtEFG.l2 k (x0 ++ [48]) x2 x3 x4 x5 x202 (wrap64 (x203 + 1))) else (none)) else (strconv_fmtEFG.j17 k x0 x2 x3 x4 x5)
def strconv_fmtEFG.j1 : Nat → List Int → Bool → List Int → Int → Int → Int → Int → Bool → Int → Bool → Option (List Int)
  | 0, _, _, _, _, _, _, _, _, _, _ => none
  | k + 1, x0, x1, x2, x3, x4, x5, x6, x7, x17, x45 => if x45 = true then (strconv_fmtEFG.j2 k x0 x1 x2 x3 x4 x5 x6 x7 x4) else (strconv_fmtEFG.j2 k x0 x1 x2 x3 x4 x5 x6 x7 x17)
def strconv_fmtEFG.j2 : Nat → List Int → Bool → List Int → Int → Int → Int → Int → Bool → Int → Option (List Int)
  | 0, _, _, _, _, _, _, _, _, _ => none
  | k + 1, x0, x1, x2, x3, x4, x5, x6, x7, x17 => if x7 = true then (strconv_fmtEFG.j3 k x0 x1 x2 x3 x4 x5 x6 6) else (strconv_fmtEFG.j3 k x0 x1 x2 x3 x4 x5 x6 x17)
def strconv_fmtEFG.j3 : Nat → List Int → Bool → List Int → Int → Int → Int → Int → Int → Option (List Int)
  | 0, _, _, _, _, _, _, _, _ => none
  | k + 1, x0, x1, x2, x3, x4, x5, x6, x17 => if (wrap64 (x3 - 1)) < (-4) then (strconv_fmtEFG.j4 k x0 x1 x2 x3 x4 x5 x6 true) else (strconv_fmtEFG.j4 k x0 x1 x2 x3 x4 x5 x6 (decide ((wrap64 (x3 - 1)) ≥ x17)))
def strconv_fmtEFG.j4 : Nat → List Int → Bool → List Int → Int → Int → Int → Int → Bool → Option (List Int)
  | 0, _, _, _, _, _, _, _, _ => none
  | k + 1, x0, x1, x2, x3, x4, x5, x6, x56 => if x56 = true then (if x5 > x4 then (strconv_fmtEFG.j5 k x0 x1 x2 x3 x4 (wrap64 (x4 - 1)) ((((x6 + 101) % 256) - 103) % 256)) else (strconv_fmtEFG.j5 k x0 x1 x2 x3 x4 (wrap64 (x5 - 1)) ((((x6 + 101) % 256) - 103) % 256))) else (if x5 > x3 then (strconv_fmtEFG.j5 k x0 x1 x2 x3 x4 (mx (wrap64 (x4 - x3)) 0) 102) else (strconv_fmtEFG.j5 k x0 x1 x2 x3 x4 (mx (wrap64 (x5 - x3)) 0) 102))
end
def strconv_fmtEFG.f (k : Nat) (l0 : List Int) (a1 : Bool) (l2 : List Int) (a3 : Int) (a4 : Int) (a5 : Int) (a6 : Int) (a7 : Bool) : Option (List Int) := if a6 = 103 then (strconv_fmtEFG.j0 k l0 a1 l2 a3 a4 a5 a6 a7 true) else (strconv_fmtEFG.j0 k l0 a1 l2 a3 a4 a5 a6 a7 (a6 == 71))
end Go.Proofs.YtdggjpdhbailpaaDoor.Efgd
