import PyProof.Rows.All
import Wide.All
import OpenK.AllK
import Wide.FinOn
import PySem.Challenge.RW_dn0053_06
set_option bootstrap.genMatcherCode false
set_option linter.all false
set_option genSizeOf false
set_option genCtorIdx false
set_option compiler.extract_closed false
set_option genSizeOfSpec false
set_option genInjectivity false
set_option autoImplicit false
namespace Mine
theorem Z1 {a : Nat} (b : Nat) : a ≠ a + (b + 1) := by lia
theorem Z2 {p : Prop} {a b : Nat} (h : a < b) (n : b ≤ a) : p := by lia
theorem Z3 {a b : Nat} (h : ¬ a < b) : b ≤ a := Nat.le_of_not_lt h
theorem Z4 {a b : Nat} (h : a ≤ b) : (a : Int) ≤ b := by lia
theorem Z5 {a b c : Nat} (h : a < b) (k : b ≤ c) : a ≤ c := by lia
theorem Z6 {a b m : Nat} (h : a < b) (e : (a + b) / 2 = m) : a ≤ m := by lia
theorem Z7 {a b c : Nat} (h : a < b) (k : b ≤ c) : a < c := Nat.lt_of_lt_of_le h k
theorem Z8 {a b : Nat} (h : a < b) : a + 1 ≤ b := h
theorem Z9 {a b m : Nat} (h : a < b) (e : (a + b) / 2 = m) : m < b := by lia
theorem Z10 {a b : Nat} (h : a < b) : (a : Int) < b := by lia
theorem Z11 {a b c : Nat} (h : a < c) : a - b < c := Nat.sub_lt_of_lt h
theorem Z12 (n : Nat) : 0 ≤ (n : Int) := by lia
theorem Z13 {a b c : Nat} (h : a < b) (k : b < c) : a < c := Nat.lt_trans h k
theorem Z14 {a b c : Nat} (h : a ≤ b) (k : b ≤ c) : a ≤ c := Nat.le_trans h k
theorem Z15 {i : Int} {n : Nat} (h : 0 ≤ i) (k : i < n) : i.toNat < n := by lia
theorem Z16 {a b c : Nat} (h : a + b < c) : a < c := by lia
theorem Z17 {a b : Nat} (h : a ≤ b) : a < b + 1 := Nat.lt_succ_of_le h
theorem Z18 {a b c : Nat} (k : c = b + (a + 1)) : b ≤ c := by lia
theorem Z19 {a b : Nat} (c : Nat) (h : a < b) : a ≠ b + c := by lia
theorem Z20 {a b : Nat} (c : Nat) (h : a < b) : b + c ≠ a := by lia
theorem Z21 {a b c : Nat} (h : a + b ≤ c) : a ≤ c := by lia
theorem Z22 {p : Prop} {a : Nat} (h : a < a) : p := by lia
theorem Z23 {a : Nat} (b : Nat) : a + (b + 1) ≠ a := by lia
theorem Z24 {a b : Nat} (h : a < b) : a ≠ b := Nat.ne_of_lt h
theorem Z25 {a b : Nat} (h : a < b) : b ≠ a := Nat.ne_of_gt h
theorem Z26 {a b : Nat} (h : a < b) : a ≤ b := Nat.le_of_lt h
theorem Z27 {a b : Nat} (h : a = b) : a ≤ b := Nat.le_of_eq h
theorem Z28 {a b : Nat} (h : a < b) : a < b + 1 := by lia
theorem Z29 {i : Int} {a b : Nat} (h : a = b) (k : i < a) : i < b := by lia
theorem Z30 {a b c d : Nat} (h : a = b) (k : c = b + (d + 1)) : a ≤ c := by lia
theorem Z31 {a b : Nat} (h : (a : Int) < b) : a < b := by lia
theorem Z32 {p : Prop} {a b : Int} (h : a < b) (n : b ≤ a) : p := by lia
theorem Z33 {a b : Int} (h : a = b) : a ≤ b := Int.le_of_eq h
theorem Z34 {a b : Int} (h : a < b + 1) (k : ¬ a < b) : a = b := by lia
theorem Z35 {a b c : Int} (h : a < b) (k : b < c) : a < c := Int.lt_trans h k
theorem Z36 {a b : Int} (h : 0 ≤ a) (k : a < b) : 0 ≤ b := by lia
theorem Z37 {a b : Nat} (h : a < b + 1) (n : ¬ a < b) : a = b := by lia
theorem Z38 {a b c : Nat} (h : a ≤ b) (k : b < c) : a < c := Nat.lt_of_le_of_lt h k
theorem Z39 {a b c : Nat} (h : a ≤ b) (k : b < c) : a + 1 ≤ c := by lia
theorem Z40 {a b : Int} (h : a = b) : a + 1 = b + 1 := by lia
theorem Z41 {a b c : Nat} (h : a + b ≤ c) : b ≤ c := by lia
theorem Z42 {a b : Nat} (h : a + 1 ≤ b) : a < b := h
theorem Z43 {a b c : Int} (h : a ≤ b) (k : b ≤ c) : a ≤ c := Int.le_trans h k
theorem Z44 {a b c : Nat} (h : b < c - a) : a + b < c := by lia
theorem Z45 {a b : Nat} (h : a ≤ b) : a + (b - a) = b := by lia
theorem Z46 {a b c : Nat} (h : a ≤ b) (k : b < c) : a ≤ c := by lia
theorem Z47 {a b : Nat} (h : a < b) : ¬ a = b := by lia
theorem Z48 {a b : Nat} (h : a ≤ b) (n : ¬ b = a) : a < b := by lia
theorem Z49 {a : Int} (h : 0 ≤ a) : 0 ≤ a + 1 := by lia
theorem Z50 {a b : Int} (h : a + 1 ≤ b) : a < b := by lia
theorem Z51 {a : Int} {b : Nat} : a + 1 + b = a + ↑(b + 1) := by lia
theorem Z52 {p : Prop} {a : Nat} (h : a < 0) : p := by lia
theorem Z53 {a b c : Int} (h : a < b) (k : ¬ a < c) (j : b < c) : False := by lia
theorem Z54 {p : Prop} {a : Int} (h : a < a) : p := by lia
theorem Z55 {a b : Int} (h : a ≠ b) (k : ¬ a < b) : b < a := by lia
theorem Z56 {a b : Int} : a - 1 - (a - 1 - b) = b := by lia
theorem Z57 {a b : Int} (h : 0 ≤ b) : a - 1 - b < a := by lia
theorem Z58 {a b : Int} (h : b < a) : 0 ≤ a - 1 - b := by lia
theorem Z59 {a b : Int} (h : a + 1 ≤ b) : a ≤ b := by lia
theorem Z60 {a b : Int} (h : a ≤ b) (k : ¬ b = a) : a + 1 ≤ b := by lia
theorem Z61 {a b : Int} (h : a < b) : a ≠ b := by lia
theorem Z62 {a b : Nat} (h : a ≠ b) (n : ¬ b < a) : a < b := by lia
theorem Z63 {p q : Prop} (h : ¬ p) : ¬ (p ∧ q) := fun z => h z.1
theorem Z64 {a b : Nat} (h : a < b) : ¬ b = a := by lia
theorem Z65 {a b : Nat} (h : a < b) : a ≤ b - 1 := by lia
theorem Z66 {a b : Nat} (h : ¬ b ≤ a) : (a + b) / 2 < b := by lia
theorem Z67 {a b : Nat} (h : ¬ b ≤ a) : a ≤ (a + b) / 2 := by lia
theorem Z68 {a b : Nat} (h : a < b + 1) (n : b ≤ a) : a = b := by lia
theorem Z69 {a : Nat} (h : a < 1) : a = 0 := by lia
theorem Z70 {a b : Nat} (h : a < b) : 1 ≤ b := Nat.lt_of_le_of_lt (Nat.zero_le a) h
theorem Z71 {a b : Nat} (h : a ≤ b) (n : ¬ a = b) : a < b := by lia
theorem Z72 {p q : Prop} (h : ¬ q) : ¬ (p ∧ q) := fun z => h z.2
theorem Z73 {b : Nat} (h : 1 ≤ b) : b - 1 < b := Nat.sub_lt h (by decide)
theorem Z74 {a : Nat} (h : ¬ 0 < a) : a = 0 := by lia
theorem Z75 {a b c : Nat} (h : b + 1 - (c + 1) ≤ a) : b - c ≤ a := by lia
theorem Z76 {a b c : Nat} (h : a < b + 1 - (c + 1)) : a < b - c := by lia
theorem Z77 {a b : Nat} (h : a + 1 < b + 1) : a < b := by lia
theorem Z78 {a b : Nat} (h : a < b - 1) : a + 1 < b := by lia
end Mine
namespace Mine
set_option genCtorIdx true in
inductive AV where
 | none | bool (b : Bool) | int (i : Int) | ref (k : Nat) | fn (k : Nat) | cls (b : Bool)
set_option genCtorIdx true in
inductive AObj where
 | list (xs : List AV) | ro (xs : List AV) | tuple (xs : List AV)
 | dict (es : List (Int × AV)) (ver : Nat) | set (es : List Int)
 | hid | node (d : Nat) (a b c : Option AV)
 | inst (d : Nat) | ns (es : List (Nat × AV))
 | cell (v : Option AV)
 | clos (f : Nat) (cells : List (Nat × Nat))
 | iter (l i : Nat) | meth (it : Nat) | junk
noncomputable abbrev Hp := List AObj
structure Fm where
 loc : Nat → Option AV
 cel : Nat → Option Nat
set_option genCtorIdx true in
inductive BOp where | add | sub | mul | fdiv | mod
set_option genCtorIdx true in
inductive COp where | lt | le | gt | ge | eq | ne | is | isn | mem | nmem
set_option genCtorIdx true in
inductive Pr where | len | list | tuple | bool | abs | sum | max | min | min2 | sorted | set0 | iter | listRange
inductive IVar where | loc (x : Nat) | cel (x : Nat)
inductive IPat where | one (v : IVar) | tup (vs : List IVar)
mutual
inductive IExpr where
 | none | bool (b : Bool) | int (i : Int)
 | loc (x : Nat) | cel (x : Nat) | fn (k : Nat) | cls (b : Bool) | gint (x : Nat) (i : Int)
 | bin (op : BOp) (a b : IExpr) | neg (a : IExpr) | not (a : IExpr)
 | cmp (op : COp) (a b : IExpr) | and (a b : IExpr) | or (a b : IExpr) | ite (c a b : IExpr)
 | attr (o : IExpr) (x : Nat) | idx (o i : IExpr) | slice (o lo hi st : IExpr)
 | list (es : List IExpr) | tuple (es : List IExpr) | dict0
 | comp (elt : IExpr) (g : IGen) (gens : List IGen) (own free : List Nat)
 | lam (k : Nat)
 | call (f : IExpr) (args star : List IExpr) (kwn : List Nat) (kwv : List IExpr)
 | meth (o : IExpr) (m : Nat) (args star : List IExpr)
 | prim (p : Pr) (args : List IExpr)
 | sortKey (e f : IExpr)
inductive IGen where
 | mk (pat : IPat) (src : ISrc) (ifs : List IExpr)
inductive ISrc where
 | seq (e : IExpr) | range1 (b : IExpr) | range2 (a b : IExpr) | zip (a b : IExpr) | values (e : IExpr)
end
inductive ITgt where | var (v : IVar) | attr (o : IExpr) (x : Nat) | idx (o i : IExpr)
inductive IStmt where
 | asg (ts : List ITgt) (e : IExpr)
 | aug (v : IVar) (op : BOp) (e : IExpr)
 | augAttr (o : IExpr) (x : Nat) (op : BOp) (e : IExpr)
 | expr (e : IExpr) | ret (e : IExpr) | brk | cont
 | ite (c : IExpr) (a b : List IStmt)
 | iteW (x : Nat) (e : IExpr) (a : List IStmt)
 | while (c : IExpr) (a b : List IStmt)
 | for (p : IPat) (src : ISrc) (a : List IStmt)
 | del (o i : IExpr)
 | tryNext (x its d st : Nat)
 | fail
structure IFn where
 params : List Nat
 dflts : List AV
 kwo : List (Nat × AV)
 var : Option Nat
 shapes : List (Nat × List Nat)
 cells : List Nat
 free : List Nat
 isDef : Bool
 body : List IStmt
structure IProg where
 fns : List IFn
 meths : List (Nat × Nat)
 tsInit : Nat
 ndInit : Nat
set_option genCtorIdx true in
inductive AFlow where | next | brk | cont | ret (v : AV)
set_option genCtorIdx true in
inductive Item where | one (v : AV) | pair (a b : AV)
noncomputable abbrev mAppend : Nat := 0
noncomputable abbrev mExtend : Nat := 1
noncomputable abbrev mPop : Nat := 2
noncomputable abbrev mInsert : Nat := 3
noncomputable abbrev mClear : Nat := 4
noncomputable abbrev mIndex : Nat := 5
noncomputable abbrev mGet : Nat := 6
noncomputable abbrev mAdd : Nat := 7
noncomputable abbrev aNext : Nat := 8
noncomputable abbrev aNode : Nat := 9
noncomputable abbrev aNpred : Nat := 10
noncomputable abbrev aSucc : Nat := 11
end Mine
namespace Mine
noncomputable def f0b : List IStmt := [
 .asg [.attr (.loc 12) 9] (.loc 9),
 .asg [.attr (.loc 12) 10] (.int 0),
 .asg [.attr (.loc 12) 11] (.list [])]
noncomputable def f0 : IFn := ⟨[12, 9], [], [], none, [(2, [])], [], [], true, f0b⟩
noncomputable def f1b : List IStmt := [
 .asg [.attr (.loc 12) 14] .dict0,
 .asg [.attr (.loc 12) 15] .none,
 .asg [.attr (.loc 12) 16] (.int 0),
 .asg [.attr (.loc 12) 17] (.int 0),
 .ite (.cmp .isn (.loc 13) .none) [.fail] []]
noncomputable def f1 : IFn := ⟨[12, 13], [.none], [], none, [(1, [])], [], [], true, f1b⟩
noncomputable def f2b : List IStmt := [
 .iteW 19 (.meth (.attr (.loc 12) 14) 6 [(.loc 9)] []) [.asg [.idx (.attr (.loc 12) 14) (.loc 9), .var (.loc 19)] (.call (.cls true) [(.loc 9)] [] [] [])],
 .ret (.loc 19)]
noncomputable def f2 : IFn := ⟨[12, 9], [], [], none, [(2, [])], [], [], true, f2b⟩
noncomputable def f3b : List IStmt := [
 .ite (.cmp .isn (.attr (.loc 12) 15) .none) [.fail] [],
 .asg [.var (.loc 20)] (.meth (.loc 12) 21 [(.loc 9)] []),
 .augAttr (.loc 20) 10 .add (.prim .len [(.loc 18)]),
 .for (.one (.loc 22)) (.seq (.loc 18)) [.asg [.var (.loc 23)] (.meth (.loc 12) 21 [(.loc 22)] []), .expr (.meth (.attr (.loc 23) 11) 0 [(.loc 9)] [])]]
noncomputable def f3 : IFn := ⟨[12, 9], [], [], some 18, [], [], [], true, f3b⟩
noncomputable def f4b : List IStmt := [
 .ite (.cmp .isn (.attr (.loc 12) 15) .none) [.fail] [],
 .asg [.attr (.loc 12) 15] (.comp (.attr (.loc 24) 9) (.mk (.one (.loc 24)) (.values (.attr (.loc 12) 14)) [(.cmp .eq (.attr (.loc 24) 10) (.int 0))]) [] [] []),
 .asg [.var (.loc 25)] (.meth (.loc 12) 26 [] []),
 .ite (.loc 25) [.fail] []]
noncomputable def f4 : IFn := ⟨[12], [], [], none, [(1, [])], [], [], true, f4b⟩
noncomputable def f5b : List IStmt := [
 .ite (.cmp .is (.attr (.loc 12) 15) .none) [.fail] [],
 .asg [.var (.loc 19)] (.prim .tuple [(.attr (.loc 12) 15)]),
 .asg [.var (.loc 27)] (.attr (.loc 12) 14),
 .for (.one (.loc 9)) (.seq (.loc 19)) [.asg [.attr (.idx (.loc 27) (.loc 9)) 10] (.gint 0 (-1))],
 .expr (.meth (.attr (.loc 12) 15) 4 [] []),
 .augAttr (.loc 12) 16 .add (.prim .len [(.loc 19)]),
 .ret (.loc 19)]
noncomputable def f5 : IFn := ⟨[12], [], [], none, [(1, [])], [], [], true, f5b⟩
noncomputable def f6b : List IStmt := [
 .ite (.cmp .is (.attr (.loc 12) 15) .none) [.fail] [],
 .ret (.or (.cmp .lt (.attr (.loc 12) 17) (.attr (.loc 12) 16)) (.prim .bool [(.attr (.loc 12) 15)]))]
noncomputable def f6 : IFn := ⟨[12], [], [], none, [(1, [])], [], [], true, f6b⟩
noncomputable def f7b : List IStmt := [
 .ite (.cmp .is (.attr (.loc 12) 15) .none) [.fail] [],
 .asg [.var (.loc 27)] (.attr (.loc 12) 14),
 .for (.one (.loc 9)) (.seq (.loc 29)) [.iteW 20 (.meth (.loc 27) 6 [(.loc 9)] []) [.fail], .asg [.var (.loc 30)] (.attr (.loc 20) 10), .ite (.cmp .ne (.loc 30) (.gint 0 (-1))) [.ite (.cmp .ge (.loc 30) (.int 0)) [.fail] [.ite (.cmp .eq (.loc 30) (.gint 0 (-2))) [.fail] [.fail]]] [], .asg [.attr (.loc 20) 10] (.gint 0 (-2)), .for (.one (.loc 31)) (.seq (.attr (.loc 20) 11)) [.asg [.var (.loc 32)] (.idx (.loc 27) (.loc 31)), .augAttr (.loc 32) 10 .sub (.int 1), .ite (.cmp .eq (.attr (.loc 32) 10) (.int 0)) [.expr (.meth (.attr (.loc 12) 15) 0 [(.loc 31)] [])] []], .augAttr (.loc 12) 17 .add (.int 1)]]
noncomputable def f7 : IFn := ⟨[12], [], [], some 29, [], [], [], true, f7b⟩
noncomputable def f8b : List IStmt := [
 .asg [.var (.loc 27)] (.attr (.loc 12) 14),
 .asg [.var (.loc 33)] (.list []),
 .asg [.var (.loc 34)] (.list []),
 .asg [.var (.loc 35)] (.prim .set0 []),
 .asg [.var (.loc 36)] .dict0,
 .for (.one (.loc 9)) (.seq (.loc 27)) [.ite (.cmp .mem (.loc 9) (.loc 35)) [.cont] [], .while (.bool true) [.ite (.cmp .mem (.loc 9) (.loc 35)) [.ite (.cmp .mem (.loc 9) (.loc 36)) [.ret (.bin .add (.slice (.loc 33) (.idx (.loc 36) (.loc 9)) .none .none) (.list [(.loc 9)]))] []] [.expr (.meth (.loc 35) 7 [(.loc 9)] []), .expr (.meth (.loc 34) 0 [(.attr (.prim .iter [(.attr (.idx (.loc 27) (.loc 9)) 11)]) 8)] []), .asg [.idx (.loc 36) (.loc 9)] (.prim .len [(.loc 33)]), .expr (.meth (.loc 33) 0 [(.loc 9)] [])], .while (.loc 33) [.tryNext 9 34 36 33] [.brk]] []],
 .ret .none]
noncomputable def f8 : IFn := ⟨[12], [], [], none, [(1, [])], [], [], true, f8b⟩
noncomputable def f9b : List IStmt := [
 .ite (.cmp .is (.loc 41) .none) [.asg [.var (.loc 39)] (.call (.fn 10) [(.loc 37), (.loc 38), (.loc 39), (.loc 40)] [] [] [])] [.asg [.var (.loc 39)] (.call (.fn 10) [(.loc 37), (.call (.loc 41) [(.loc 38)] [] [] []), (.loc 39), (.loc 40)] [] [41] [(.loc 41)])],
 .expr (.meth (.loc 37) 3 [(.loc 39), (.loc 38)] [])]
noncomputable def f9 : IFn := ⟨[37, 38, 39, 40], [.int 0, .none], [(41, .none)], none, [(2, [41]), (4, [41]), (3, [])], [], [], true, f9b⟩
noncomputable def f10b : List IStmt := [
 .ite (.cmp .lt (.loc 39) (.int 0)) [.fail] [],
 .ite (.cmp .is (.loc 40) .none) [.asg [.var (.loc 40)] (.prim .len [(.loc 37)])] [],
 .ite (.cmp .is (.loc 41) .none) [.while (.cmp .lt (.loc 39) (.loc 40)) [.asg [.var (.loc 42)] (.bin .fdiv (.bin .add (.loc 39) (.loc 40)) (.int 2)), .ite (.cmp .lt (.loc 38) (.idx (.loc 37) (.loc 42))) [.asg [.var (.loc 40)] (.loc 42)] [.asg [.var (.loc 39)] (.bin .add (.loc 42) (.int 1))]] []] [.while (.cmp .lt (.loc 39) (.loc 40)) [.asg [.var (.loc 42)] (.bin .fdiv (.bin .add (.loc 39) (.loc 40)) (.int 2)), .ite (.cmp .lt (.loc 38) (.call (.loc 41) [(.idx (.loc 37) (.loc 42))] [] [] [])) [.asg [.var (.loc 40)] (.loc 42)] [.asg [.var (.loc 39)] (.bin .add (.loc 42) (.int 1))]] []],
 .ret (.loc 39)]
noncomputable def f10 : IFn := ⟨[37, 38, 39, 40], [.int 0, .none], [(41, .none)], none, [(4, []), (4, [41])], [], [], true, f10b⟩
noncomputable def f11b : List IStmt := [
 .ite (.cmp .lt (.loc 39) (.int 0)) [.fail] [],
 .ite (.cmp .is (.loc 40) .none) [.asg [.var (.loc 40)] (.prim .len [(.loc 37)])] [],
 .ite (.cmp .is (.loc 41) .none) [.while (.cmp .lt (.loc 39) (.loc 40)) [.asg [.var (.loc 42)] (.bin .fdiv (.bin .add (.loc 39) (.loc 40)) (.int 2)), .ite (.cmp .lt (.idx (.loc 37) (.loc 42)) (.loc 38)) [.asg [.var (.loc 39)] (.bin .add (.loc 42) (.int 1))] [.asg [.var (.loc 40)] (.loc 42)]] []] [.while (.cmp .lt (.loc 39) (.loc 40)) [.asg [.var (.loc 42)] (.bin .fdiv (.bin .add (.loc 39) (.loc 40)) (.int 2)), .ite (.cmp .lt (.call (.loc 41) [(.idx (.loc 37) (.loc 42))] [] [] []) (.loc 38)) [.asg [.var (.loc 39)] (.bin .add (.loc 42) (.int 1))] [.asg [.var (.loc 40)] (.loc 42)]] []],
 .ret (.loc 39)]
noncomputable def f11 : IFn := ⟨[37, 38, 39, 40], [.int 0, .none], [(41, .none)], none, [(2, [41]), (3, [])], [], [], true, f11b⟩
noncomputable def libFns : List IFn := [f0, f1, f2, f3, f4, f5, f6, f7, f8, f9, f10, f11]
noncomputable def libMeths : List (Nat × Nat) := [(21, 2), (7, 3), (47, 4), (49, 5), (28, 6), (51, 7), (26, 8)]
noncomputable def mkProg (l : List IFn) : IProg := ⟨libFns ++ l, libMeths, 1, 0⟩
end Mine
namespace Mine
noncomputable def g06_12b : List IStmt := [
 .asg [.var (.loc 52)] (.bin .add (.loc 61) (.slice (.list [(.int 0), (.neg (.int 7)), (.int 1), (.neg (.int 3)), (.int 2), (.int 20), (.int 3), (.int 24)]) (.prim .len [(.loc 61)]) .none .none)),
 .asg [.var (.loc 85)] (.prim .sum [(.loc 52)]),
 .asg [.var (.cel 86)] (.bin .add (.bin .mod (.loc 85) (.int 8)) (.int 1)),
 .asg [.var (.cel 87)] (.bin .mul (.bin .mod (.bin .fdiv (.loc 85) (.int 8)) (.int 8)) (.int 3)),
 .asg [.var (.cel 64)] (.prim .sorted [(.slice (.loc 52) (.int 0) .none (.int 2))]),
 .asg [.var (.cel 88)] (.prim .len [(.cel 64)]),
 .asg [.var (.cel 62)] (.prim .listRange [(.cel 88)]),
 .asg [.var (.cel 89)] (.bin .add (.slice (.loc 52) (.int 1) .none (.int 2)) (.list [(.int 0)])),
 .asg [.var (.cel 76)] (.comp (.bin .add (.bin .fdiv (.prim .abs [(.idx (.cel 89) (.loc 24))]) (.int 2)) (.bin .mod (.loc 24) (.int 2))) (.mk (.one (.loc 24)) (.seq (.cel 62)) []) [] [] [89]),
 .asg [.var (.cel 79)] (.comp (.ite (.cmp .eq (.cel 87) (.int 0)) (.idx (.cel 89) (.loc 24)) (.bin .mod (.idx (.cel 89) (.loc 24)) (.cel 87))) (.mk (.one (.loc 24)) (.seq (.cel 62)) []) [] [] [89, 87]),
 .asg [.var (.cel 80)] (.comp (.call (.fn 11) [(.cel 64), (.bin .add (.idx (.cel 64) (.loc 24)) (.idx (.cel 76) (.loc 24))), (.bin .add (.loc 24) (.int 1))] [] [] []) (.mk (.one (.loc 24)) (.seq (.cel 62)) []) [] [] [76, 64]),
 .ite (.cmp .ne (.cel 80) (.call (.fn 14) [(.cel 64), (.cel 76)] [] [] [])) [.ret (.bool false)] [],
 .asg [.var (.loc 83)] (.comp (.tuple [(.loc 24), (.idx (.cel 80) (.loc 24))]) (.mk (.one (.loc 24)) (.seq (.cel 62)) [(.cmp .lt (.idx (.cel 80) (.loc 24)) (.cel 88))]) [] [] [88, 80]),
 .asg [.var (.cel 90)] (.prim .list [(.cel 79)]),
 .asg [.var (.loc 91)] (.call (.fn 13) [(.cel 62), (.comp (.tuple [(.loc 84), (.loc 24)]) (.mk (.tup [.loc 24, .loc 84]) (.seq (.loc 83)) []) [] [] [])] [] [] []),
 .for (.one (.loc 92)) (.seq (.cel 62)) [.asg [.var (.loc 74)] (.meth (.loc 91) 49 [] []), .for (.one (.loc 24)) (.seq (.loc 74)) [.ite (.cmp .lt (.idx (.cel 80) (.loc 24)) (.cel 88)) [.asg [.idx (.cel 90) (.loc 24)] (.prim .min2 [(.idx (.cel 90) (.loc 24)), (.bin .sub (.idx (.cel 90) (.idx (.cel 80) (.loc 24))) (.int 1))])] []], .expr (.meth (.loc 91) 51 [] [(.loc 74)])],
 .ite (.cmp .ne (.cel 90) (.call (.fn 15) [(.cel 79), (.cel 80)] [] [] [])) [.ret (.bool false)] [],
 .expr (.meth (.cel 90) 1 [(.list [(.bin .add (.prim .max [(.cel 90)]) (.int 1)), (.bin .sub (.prim .min [(.cel 90)]) (.int 1))])] []),
 .asg [.var (.loc 44)] (.call (.fn 13) [(.cel 62), (.loc 83)] [] [] []),
 .asg [.var (.loc 93)] (.list [(.cel 88)]),
 .asg [.var (.loc 50)] (.list [(.cel 88), (.bin .add (.cel 88) (.int 1))]),
 .asg [.var (.loc 94)] (.list [(.idx (.cel 90) (.cel 88))]),
 .asg [.var (.loc 95)] (.list []),
 .asg [.var (.cel 96)] (.bin .mul (.list [(.int 0)]) (.cel 88)),
 .asg [.var (.loc 97)] (.int 0),
 .while (.and (.meth (.loc 44) 28 [] []) (.cmp .lt (.loc 97) (.cel 88))) [.for (.one (.loc 24)) (.seq (.meth (.loc 44) 49 [] [])) [.expr (.meth (.loc 95) 0 [(.loc 24)] []), .ite (.cmp .isn (.call (.fn 9) [(.loc 50), (.loc 24), (.prim .len [(.loc 93)]), (.bin .sub (.prim .len [(.loc 50)]) (.int 1))] [] [41] [(.lam 16)]) .none) [.ret (.bool false)] [], .ite (.cmp .isn (.call (.fn 9) [(.loc 94), (.idx (.cel 90) (.loc 24)), (.prim .len [(.loc 93)])] [] [] []) .none) [.ret (.bool false)] []], .ite (.cmp .ne (.loc 50) (.bin .add (.bin .add (.loc 93) (.sortKey (.loc 95) (.lam 17))) (.list [(.bin .add (.cel 88) (.int 1))]))) [.ret (.bool false)] [], .ite (.cmp .ne (.loc 94) (.comp (.idx (.cel 90) (.loc 24)) (.mk (.one (.loc 24)) (.seq (.slice (.loc 50) .none (.neg (.int 1)) .none)) []) [] [] [90])) [.ret (.bool false)] [], .aug (.loc 97) .add (.int 1), .asg [.var (.cel 98)] (.slice (.slice (.loc 50) (.prim .len [(.loc 93)]) (.neg (.int 1)) .none) .none (.cel 86) .none), .for (.one (.loc 24)) (.seq (.cel 98)) [.asg [.idx (.cel 96) (.loc 24)] (.loc 97)], .expr (.meth (.loc 44) 51 [] [(.cel 98)]), .expr (.meth (.loc 93) 1 [(.cel 98)] []), .asg [.var (.loc 95)] (.comp (.loc 24) (.mk (.one (.loc 24)) (.seq (.loc 95)) [(.cmp .nmem (.loc 24) (.cel 98))]) [] [] [98])] [],
 .ite (.or (.cmp .mem (.int 0) (.cel 96)) (.cmp .ne (.comp (.loc 24) (.mk (.tup [.loc 24, .loc 84]) (.seq (.loc 83)) [(.cmp .ge (.idx (.cel 96) (.loc 24)) (.idx (.cel 96) (.loc 84)))]) [] [] [96]) (.list []))) [.ret (.bool false)] [],
 .asg [.var (.loc 99)] (.prim .max [(.comp (.bin .sub (.idx (.cel 96) (.loc 24)) (.idx (.cel 79) (.loc 24))) (.mk (.one (.loc 24)) (.seq (.cel 62)) []) [] [] [79, 96])]),
 .asg [.var (.cel 100)] (.comp (.prim .len [(.comp (.loc 59) (.mk (.one (.loc 59)) (.seq (.cel 62)) [(.cmp .le (.idx (.cel 90) (.loc 59)) (.idx (.cel 90) (.cel 24)))]) [] [] [90, 24])]) (.mk (.one (.cel 24)) (.seq (.cel 62)) []) [] [24] [90, 62]),
 .ret (.cmp .eq (.loc 99) (.prim .max [(.comp (.bin .sub (.neg (.bin .fdiv (.neg (.idx (.cel 100) (.loc 24))) (.cel 86))) (.idx (.cel 90) (.loc 24))) (.mk (.one (.loc 24)) (.seq (.cel 62)) []) [] [] [90, 100, 86])]))]
noncomputable def g06_12 : IFn := ⟨[61], [], [], none, [(1, [])], [86, 87, 64, 88, 62, 89, 76, 79, 80, 96, 98, 100, 90], [], true, g06_12b⟩
noncomputable def g06_13b : List IStmt := [
 .asg [.var (.loc 44)] (.call (.cls false) [] [] [] []),
 .for (.one (.cel 84)) (.seq (.loc 62)) [.expr (.meth (.loc 44) 7 [(.cel 84)] [(.comp (.loc 24) (.mk (.tup [.loc 24, .loc 59]) (.seq (.loc 83)) [(.cmp .eq (.loc 59) (.cel 84))]) [] [] [84])]), .expr (.meth (.loc 44) 7 [(.cel 84)] [])],
 .expr (.meth (.loc 44) 47 [] []),
 .ret (.loc 44)]
noncomputable def g06_13 : IFn := ⟨[62, 83], [], [], none, [(2, [])], [84], [], true, g06_13b⟩
noncomputable def g06_14b : List IStmt := [
 .asg [.var (.loc 77)] (.list []),
 .for (.one (.cel 24)) (.range1 (.prim .len [(.cel 64)])) [.asg [.var (.loc 78)] (.comp (.loc 59) (.mk (.one (.loc 59)) (.range2 (.bin .add (.cel 24) (.int 1)) (.prim .len [(.cel 64)])) [(.cmp .ge (.idx (.cel 64) (.loc 59)) (.bin .add (.idx (.cel 64) (.cel 24)) (.idx (.cel 76) (.cel 24))))]) [] [] [76, 24, 64]), .expr (.meth (.loc 77) 0 [(.prim .min [(.bin .add (.loc 78) (.list [(.prim .len [(.cel 64)])]))])] [])],
 .ret (.loc 77)]
noncomputable def g06_14 : IFn := ⟨[64, 76], [], [], none, [(2, [])], [64, 76, 24], [], true, g06_14b⟩
noncomputable def g06_15b : List IStmt := [
 .asg [.var (.loc 81)] (.list []),
 .for (.one (.loc 24)) (.range1 (.prim .len [(.loc 80)])) [.asg [.var (.cel 82)] (.list [(.loc 24)]), .while (.cmp .lt (.idx (.loc 80) (.idx (.cel 82) (.neg (.int 1)))) (.prim .len [(.loc 80)])) [.expr (.meth (.cel 82) 0 [(.idx (.loc 80) (.idx (.cel 82) (.neg (.int 1))))] [])] [], .expr (.meth (.loc 81) 0 [(.prim .min [(.comp (.bin .sub (.idx (.cel 79) (.idx (.cel 82) (.loc 59))) (.loc 59)) (.mk (.one (.loc 59)) (.range1 (.prim .len [(.cel 82)])) []) [] [] [79, 82])])] [])],
 .ret (.loc 81)]
noncomputable def g06_15 : IFn := ⟨[79, 80], [], [], none, [(2, [])], [79, 82], [], true, g06_15b⟩
noncomputable def g06_16 : IFn := ⟨[60], [], [], none, [(1, [])], [], [90], false, [.ret (.list [.idx (.cel 90) (.loc 60)])]⟩
noncomputable def g06_17 : IFn := ⟨[60], [], [], none, [(1, [])], [], [90], false, [.ret (.idx (.cel 90) (.loc 60))]⟩
noncomputable def fns06 : List IFn := [g06_12, g06_13, g06_14, g06_15, g06_16, g06_17]
noncomputable def prog06 : IProg := mkProg fns06
end Mine
namespace Mine
noncomputable def prog : IProg := prog06
end Mine
namespace Mine
noncomputable def wB : Nat := 10000000
noncomputable def ints? : List AV → Option (List Int)
 | [] => some []
 | .int i :: r => (ints? r).map (i :: ·)
 | _ => none
inductive Sq (h : Hp) : AV → List AV → Prop
 | list {k : Nat} {xs : List AV} (e : h[k]? = some (.list xs)) : Sq h (.ref k) xs
 | ro {k : Nat} {xs : List AV} (e : h[k]? = some (.ro xs)) : Sq h (.ref k) xs
 | tuple {k : Nat} {xs : List AV} (e : h[k]? = some (.tuple xs)) : Sq h (.ref k) xs
inductive MSq (h : Hp) : AV → List AV → Prop
 | list {k : Nat} {xs : List AV} (e : h[k]? = some (.list xs)) : MSq h (.ref k) xs
 | tuple {k : Nat} {xs : List AV} (e : h[k]? = some (.tuple xs)) : MSq h (.ref k) xs
inductive Lst (h : Hp) : AV → List AV → Prop
 | list {k : Nat} {xs : List AV} (e : h[k]? = some (.list xs)) : Lst h (.ref k) xs
 | ro {k : Nat} {xs : List AV} (e : h[k]? = some (.ro xs)) : Lst h (.ref k) xs
noncomputable def truL : AObj → Option Bool
 | .list xs => some (!xs.isEmpty)
 | _ => none
noncomputable def truthy (v : AV) (h : Hp) : Option Bool := match v with
 | .none => some false
 | .bool b => some b
 | .int i => some (i != 0)
 | .ref k => (h[k]?).bind truL
 | _ => none
inductive LI (h : Hp) (v : AV) (is : List Int) : Prop | mk (xs : List AV) (e : Lst h v xs) (ei : ints? xs = some is)
inductive One {α : Type} (a : Option α) (Q : α → Prop) : Prop | mk (x : α) (e : a = some x) (q : Q x)
inductive StarG (h : Hp) (v : AV) (Q : List AV → Prop) : Prop | mk (xs : List AV) (e : Sq h v xs) (l : xs.length ≤ 100000) (q : Q xs)
inductive IsI (v : AV) (Q : Int → Prop) : Prop | mk (i : Int) (e : v = .int i) (q : Q i)
inductive binop (h : Hp) (Q : AV → Hp → Prop) : BOp → AV → AV → Prop
 | add {x y : Int} (q : Q (.int (x + y)) h) : binop h Q .add (.int x) (.int y)
 | sub {x y : Int} (q : Q (.int (x - y)) h) : binop h Q .sub (.int x) (.int y)
 | fdiv {x y : Int} (l : 0 < y ∧ y ≤ 100000) (q : Q (.int (x.fdiv y)) h) : binop h Q .fdiv (.int x) (.int y)
 | mod {x y : Int} (l : 0 < y ∧ y ≤ 100000) (q : Q (.int (x.fmod y)) h) : binop h Q .mod (.int x) (.int y)
 | cat {x y : Nat} {xs ys : List AV} (e : Lst h (.ref x) xs) (e' : Lst h (.ref y) ys) (l : xs.length + ys.length ≤ 100000) (q : Q (.ref h.length) (h ++ [.list (xs ++ ys)])) : binop h Q .add (.ref x) (.ref y)
 | mul {x y : Int} (l : 0 ≤ x ∧ x < 1000) (q : Q (.int (x * y)) h) : binop h Q .mul (.int x) (.int y)
 | rep {x : Nat} {n : Int} {v : AV} (e : h[x]? = some (.list [v])) (l : 0 ≤ n) (l' : n ≤ 100000) (q : Q (.ref h.length) (h ++ [.list (List.replicate n.toNat v)])) : binop h Q .mul (.ref x) (.int n)
inductive augop (Q : AV → Prop) : BOp → AV → AV → Prop
 | add {x y : Int} (q : Q (.int (x + y))) : augop Q .add (.int x) (.int y)
 | sub {x y : Int} (q : Q (.int (x - y))) : augop Q .sub (.int x) (.int y)
noncomputable def isNoneA : AV → Bool
 | .none => true
 | _ => false
inductive cmpop (h : Hp) (Q : Bool → Prop) : COp → AV → AV → Prop
 | lt {x y : Int} (q : Q (decide (x < y))) : cmpop h Q .lt (.int x) (.int y)
 | le {x y : Int} (q : Q (decide (x ≤ y))) : cmpop h Q .le (.int x) (.int y)
 | ge {x y : Int} (q : Q (decide (y ≤ x))) : cmpop h Q .ge (.int x) (.int y)
 | eq {x y : Int} (q : Q (decide (x = y))) : cmpop h Q .eq (.int x) (.int y)
 | ne {x y : Int} (q : Q (!decide (x = y))) : cmpop h Q .ne (.int x) (.int y)
 | lt1 {x y : Nat} {i j : Int} (e : h[x]? = some (.list [.int i])) (e' : h[y]? = some (.list [.int j])) (q : Q (decide (i < j))) : cmpop h Q .lt (.ref x) (.ref y)
 | eqL {x y : Nat} {xs ys : List Int} (e : LI h (.ref x) xs) (e' : LI h (.ref y) ys) (q : Q (decide (xs = ys))) : cmpop h Q .eq (.ref x) (.ref y)
 | neL {x y : Nat} {xs ys : List Int} (e : LI h (.ref x) xs) (e' : LI h (.ref y) ys) (q : Q (!decide (xs = ys))) : cmpop h Q .ne (.ref x) (.ref y)
 | is {v : AV} (q : Q (isNoneA v)) : cmpop h Q .is v .none
 | isn {v : AV} (q : Q (!isNoneA v)) : cmpop h Q .isn v .none
 | memL {i : Int} {k : Nat} {xs : List Int} (e : LI h (.ref k) xs) (q : Q (decide (i ∈ xs))) : cmpop h Q .mem (.int i) (.ref k)
 | memS {i : Int} {k : Nat} {xs : List Int} (e : h[k]? = some (.set xs)) (q : Q (decide (i ∈ xs))) : cmpop h Q .mem (.int i) (.ref k)
 | memD {i : Int} {k : Nat} {es : List (Int × AV)} {n : Nat} (e : h[k]? = some (.dict es n)) (q : Q (decide (i ∈ es.map (·.1)))) : cmpop h Q .mem (.int i) (.ref k)
 | nmem {i : Int} {k : Nat} {xs : List Int} (e : LI h (.ref k) xs) (q : Q (!decide (i ∈ xs))) : cmpop h Q .nmem (.int i) (.ref k)
noncomputable def dget (es : List (Int × AV)) (k : Int) : Option AV := es.lookup k
noncomputable def dput : List (Int × AV) → Int → AV → List (Int × AV)
 | [], k, v => [(k, v)]
 | (k', v') :: r, k, v => if k' = k then (k', v) :: r else (k', v') :: dput r k v
noncomputable def ddel : List (Int × AV) → Int → List (Int × AV)
 | [], _ => []
 | (k', v') :: r, k => if k' = k then r else (k', v') :: ddel r k
noncomputable def nput : List (Nat × AV) → Nat → AV → List (Nat × AV)
 | [], k, v => [(k, v)]
 | (k', v') :: r, k, v => if k' = k then (k', v) :: r else (k', v') :: nput r k v
inductive getIdx (h : Hp) (Q : AV → Prop) : AV → AV → Prop
 | seq {k : Nat} {i : Int} {xs : List AV} {v : AV} (e : Sq h (.ref k) xs) (l : 0 ≤ i) (ev : xs[i.toNat]? = some v) (q : Q v) : getIdx h Q (.ref k) (.int i)
 | neg {k : Nat} {i : Int} {xs : List AV} {v : AV} (e : h[k]? = some (.list xs)) (l : i < 0) (l' : -(xs.length : Int) ≤ i) (ev : xs[(i + xs.length).toNat]? = some v) (q : Q v) : getIdx h Q (.ref k) (.int i)
 | dict {k : Nat} {i : Int} {es : List (Int × AV)} {n : Nat} {v : AV} (e : h[k]? = some (.dict es n)) (ev : dget es i = some v) (q : Q v) : getIdx h Q (.ref k) (.int i)
noncomputable def clampI (n : Nat) (i : Int) : Nat := (max 0 (min (if i < 0 then i + n else i) (n : Int))).toNat
noncomputable def boundLo (n : Nat) : AV → Option Nat
 | .none => some 0
 | .int i => some (clampI n i)
 | _ => none
noncomputable def boundHi (n : Nat) : AV → Option Nat
 | .none => some n
 | .int i => some (clampI n i)
 | _ => none
noncomputable def every2 {α : Type} : List α → List α
 | [] => []
 | [x] => [x]
 | x :: _ :: r => x :: every2 r
inductive Slc (xs : List AV) : AV → AV → AV → List AV → Prop
 | std {lo hi : AV} {l r : Nat} (e : boundLo xs.length lo = some l) (e' : boundHi xs.length hi = some r) : Slc xs lo hi .none ((xs.take r).drop l)
 | rev : Slc xs .none .none (.int (-1)) xs.reverse
 | two {l : Int} (e : 0 ≤ l) : Slc xs (.int l) .none (.int 2) (every2 (xs.drop l.toNat))
inductive getSlice (lo hi st : AV) (h : Hp) (Q : AV → Hp → Prop) : AV → Prop
 | mk {k : Nat} {xs ys : List AV} (e : h[k]? = some (.list xs)) (l : xs.length ≤ 100000) (es : Slc xs lo hi st ys) (q : Q (.ref h.length) (h ++ [.list ys])) : getSlice lo hi st h Q (.ref k)
noncomputable def nodeF (a b c : Option AV) (x : Nat) : Option AV := if x = aNode then a else if x = aNpred then b else if x = aSucc then c else none
inductive getAttrA (h : Hp) (Q : AV → Hp → Prop) : AV → Nat → Prop
 | inst {k d x : Nat} {es : List (Nat × AV)} {v : AV} (o : h[k]? = some (.inst d)) (e : h[d]? = some (.ns es)) (ev : es.lookup x = some v) (q : Q v h) : getAttrA h Q (.ref k) x
 | node {k d x : Nat} {a b c : Option AV} {v : AV} (o : h[k]? = some (.node d a b c)) (ev : nodeF a b c x = some v) (q : Q v h) : getAttrA h Q (.ref k) x
 | next {k l i : Nat} (o : h[k]? = some (.iter l i)) (q : Q (.ref h.length) (h ++ [.meth k])) : getAttrA h Q (.ref k) aNext
inductive setAttrA (h : Hp) (Q : Hp → Prop) : AV → Nat → AV → Prop
 | inst {k d x : Nat} {v : AV} {es : List (Nat × AV)} (o : h[k]? = some (.inst d)) (e : h[d]? = some (.ns es)) (l : es.length < 1000) (q : Q (h.set d (.ns (nput es x v)))) : setAttrA h Q (.ref k) x v
 | node {k d x : Nat} {v : AV} {a b c a' b' c' : Option AV} (o : h[k]? = some (.node d a b c)) (ex : x = aNode ∨ x = aNpred ∨ x = aSucc) (en : ∀ y, nodeF a' b' c' y = if y = x then some v else nodeF a b c y) (q : Q (h.set k (.node d a' b' c'))) : setAttrA h Q (.ref k) x v
inductive setIdx (h : Hp) (Q : Hp → Prop) (v : AV) : AV → AV → Prop
 | list {k : Nat} {i : Int} {xs : List AV} (e : h[k]? = some (.list xs)) (l : 0 ≤ i) (l' : i < xs.length) (q : Q (h.set k (.list (xs.set i.toNat v)))) : setIdx h Q v (.ref k) (.int i)
 | dict {k : Nat} {i : Int} {es : List (Int × AV)} {n : Nat} (e : h[k]? = some (.dict es n)) (l : es.length ≤ 100000) (q : ∀ n', Q (h.set k (.dict (dput es i v) n'))) : setIdx h Q v (.ref k) (.int i)
inductive delIdx (h : Hp) (Q : Hp → Prop) : AV → AV → Prop
 | dict {k : Nat} {i : Int} {es : List (Int × AV)} {n : Nat} (e : h[k]? = some (.dict es n)) (l : es.length ≤ 100000) (m : i ∈ es.map (·.1)) (q : ∀ n', Q (h.set k (.dict (ddel es i) n'))) : delIdx h Q (.ref k) (.int i)
inductive bmeth (h : Hp) (k : Nat) (Q : AV → Hp → Prop) : Nat → List AV → Prop
 | append {xs : List AV} {v : AV} (e : h[k]? = some (.list xs)) (l : xs.length ≤ 100000) (q : Q .none (h.set k (.list (xs ++ [v])))) : bmeth h k Q 0 [v]
 | extend {xs ys : List AV} {v : AV} (e : h[k]? = some (.list xs)) (l : xs.length ≤ 100000) (e' : MSq h v ys) (l' : ys.length ≤ 100000) (q : Q .none (h.set k (.list (xs ++ ys)))) : bmeth h k Q 1 [v]
 | pop {xs : List AV} {v : AV} (e : h[k]? = some (.list xs)) (l : xs.length ≤ 100000) (ev : xs.getLast? = some v) (q : Q v (h.set k (.list xs.dropLast))) : bmeth h k Q 2 []
 | pop0 {xs : List AV} {v : AV} (e : h[k]? = some (.list (v :: xs))) (l : xs.length < 100000) (q : Q v (h.set k (.list xs))) : bmeth h k Q 2 [.int 0]
 | insert {xs : List AV} {i : Int} {v : AV} (e : h[k]? = some (.list xs)) (l : xs.length ≤ 100000) (i0 : 0 ≤ i) (i1 : i ≤ xs.length) (q : Q .none (h.set k (.list (xs.take i.toNat ++ v :: xs.drop i.toNat)))) : bmeth h k Q 3 [.int i, v]
 | clear {xs : List AV} (e : h[k]? = some (.list xs)) (l : xs.length ≤ 100000) (q : Q .none (h.set k (.list []))) : bmeth h k Q 4 []
 | index {xs : List AV} {ns : List Int} {i : Int} (e : h[k]? = some (.list xs)) (l : xs.length ≤ 100000) (e' : ints? xs = some ns) (m : i ∈ ns) (q : Q (.int (ns.idxOf i)) h) : bmeth h k Q 5 [.int i]
 | get {es : List (Int × AV)} {n : Nat} {i : Int} (e : h[k]? = some (.dict es n)) (q : Q ((dget es i).getD .none) h) : bmeth h k Q 6 [.int i]
 | add {es : List Int} {i : Int} (e : h[k]? = some (.set es)) (l : es.length ≤ 1000) (q : Q .none (h.set k (.set (if i ∈ es then es else es ++ [i])))) : bmeth h k Q 7 [.int i]
noncomputable def insS {α : Type} (k : Int) (v : α) : List (Int × α) → List (Int × α)
 | [] => [(k, v)]
 | (k', v') :: r => if k < k' then (k, v) :: (k', v') :: r else (k', v') :: insS k v r
noncomputable def sortS {α : Type} (l : List (Int × α)) : List (Int × α) := l.foldl (fun acc p => insS p.1 p.2 acc) []
inductive prim (h : Hp) (Q : AV → Hp → Prop) : Pr → List AV → Prop
 | len {v : AV} (xs : List AV) (e : Sq h v xs) (q : Q (.int xs.length) h) : prim h Q .len [v]
 | list {v : AV} (xs : List AV) (e : Sq h v xs) (l : xs.length ≤ 100000) (q : Q (.ref h.length) (h ++ [.list xs])) : prim h Q .list [v]
 | tuple {k : Nat} (xs : List AV) (e : h[k]? = some (.list xs)) (l : xs.length ≤ 100000) (q : Q (.ref h.length) (h ++ [.tuple xs])) : prim h Q .tuple [.ref k]
 | bool {k : Nat} (xs : List AV) (e : h[k]? = some (.list xs)) (q : Q (.bool (!xs.isEmpty)) h) : prim h Q .bool [.ref k]
 | abs {i : Int} (q : Q (.int i.natAbs) h) : prim h Q .abs [.int i]
 | sum {k : Nat} (xs : List Int) (e : LI h (.ref k) xs) (q : Q (.int xs.sum) h) : prim h Q .sum [.ref k]
 | max {k : Nat} (xs : List Int) (e : LI h (.ref k) xs) (n : xs ≠ []) (q : ∀ m ∈ xs, (∀ x ∈ xs, x ≤ m) → Q (.int m) h) : prim h Q .max [.ref k]
 | min {k : Nat} (xs : List Int) (e : LI h (.ref k) xs) (n : xs ≠ []) (q : ∀ m ∈ xs, (∀ x ∈ xs, m ≤ x) → Q (.int m) h) : prim h Q .min [.ref k]
 | min2 {a b : Int} (q : Q (.int (min a b)) h) : prim h Q .min2 [.int a, .int b]
 | sorted {k : Nat} (xs : List Int) (e : LI h (.ref k) xs) (l : xs.length < 64) (q : ∀ ys : List Int, ys.Perm xs → ys.Pairwise (· ≤ ·) → Q (.ref h.length) (h ++ [.list (ys.map AV.int)])) : prim h Q .sorted [.ref k]
 | set0 (q : Q (.ref h.length) (h ++ [.set []])) : prim h Q .set0 []
 | iter {k : Nat} (xs : List AV) (e : h[k]? = some (.list xs)) (q : Q (.ref h.length) (h ++ [.iter k 0])) : prim h Q .iter [.ref k]
 | listRange {n : Int} (l : 0 ≤ n) (l' : n ≤ 100000) (q : Q (.ref h.length) (h ++ [.list ((List.range n.toNat).map fun (i : Nat) => .int i)])) : prim h Q .listRange [.int n]
noncomputable def IFn.dfl (f : IFn) : List (Nat × AV) := (f.params.drop (f.params.length - f.dflts.length)).zip f.dflts ++ f.kwo
noncomputable def bindAll (slots dfl : List (Nat × AV)) : List Nat → Option (List (Nat × AV))
 | [] => some []
 | x :: r => ((slots.lookup x).or (dfl.lookup x)).bind fun v => (bindAll slots dfl r).map ((x, v) :: ·)
noncomputable def abind (f : IFn) (as : List AV) (kw : List (Nat × AV)) (h : Hp) : Option (List (Nat × AV) × Hp) :=
 match f.var with
 | none => if f.shapes.contains (as.length, kw.map (·.1)) then (bindAll (f.params.zip as ++ kw) f.dfl (f.params ++ f.kwo.map (·.1))).map fun b => (b, h) else none
 | some v => if f.params.length ≤ as.length ∧ as.length ≤ 100000 ∧ kw.length = 0 then some (f.params.zip as ++ [(v, .ref h.length)], h ++ [.tuple (as.drop f.params.length)]) else none
noncomputable def cellIdx (n : Nat) : List Nat → Nat → Option Nat
 | [], _ => none
 | y :: r, x => if x = y then some n else cellIdx (n + 1) r x
noncomputable def enterF (f : IFn) (clos : List (Nat × Nat)) (binds : List (Nat × AV)) (h : Hp) : Fm × Hp :=
 ({ loc := fun x => if f.cells.contains x then none else binds.lookup x, cel := fun x => (cellIdx h.length f.cells x).or (clos.lookup x) },
 h ++ f.cells.map fun x => .cell (binds.lookup x))
noncomputable def Fm.set (fr : Fm) (x : Nat) (v : AV) : Fm := { fr with loc := fun y => if y = x then some v else fr.loc y }
inductive StC (fr : Fm) (h : Hp) (y : Nat) (Q : Nat → Prop) : Prop | mk {k : Nat} {o : Option AV} (e : fr.cel y = some k) (e' : h[k]? = some (.cell o)) (q : Q k)
noncomputable def setVar (x : AV) (fr : Fm) (h : Hp) (Q : Fm → Hp → Prop) : IVar → Prop
 | .loc y => Q (fr.set y x) h
 | .cel y => StC fr h y fun k => Q fr (h.set k (.cell (some x)))
noncomputable def setVars : List IVar → List AV → Fm → Hp → (Fm → Hp → Prop) → Prop
 | [], [], fr, h, Q => Q fr h
 | v :: vs, x :: xs, fr, h, Q => setVar x fr h (fun fr h => setVars vs xs fr h Q) v
 | _, _, _, _, _ => False
inductive BindO (Q : AV → Prop) : Item → Prop | mk {x : AV} (q : Q x) : BindO Q (.one x)
inductive BindT (h : Hp) (n : Nat) (Q : List AV → Prop) : Item → Prop
 | tup {k : Nat} {xs : List AV} (e : h[k]? = some (.tuple xs)) (l : xs.length = n) (q : Q xs) : BindT h n Q (.one (.ref k))
 | pair {a b : AV} (l : n = 2) (q : Q [a, b]) : BindT h n Q (.pair a b)
noncomputable def bindPat (fr : Fm) (h : Hp) (Q : Fm → Hp → Prop) : IPat → Item → Prop
 | .one v => BindO fun x => setVar x fr h Q v
 | .tup vs => BindT h vs.length fun xs => setVars vs xs fr h Q
structure Rec where
 ev : IExpr → Fm → Hp → (AV → Hp → Prop) → Prop
 ex : List IStmt → Fm → Hp → (AFlow → Fm → Hp → Prop) → Prop
 cl : AV → List AV → List (Nat × AV) → Hp → (AV → Hp → Prop) → Prop
section
variable (r : Rec)
noncomputable def evs : List IExpr → Fm → Hp → (List AV → Hp → Prop) → Prop
 | [], _, h, Q => Q [] h
 | e :: es, fr, h, Q => r.ev e fr h fun v h => evs es fr h fun vs h => Q (v :: vs) h
noncomputable def stars : List IExpr → Fm → Hp → (List AV → Hp → Prop) → Prop
 | [], _, h, Q => Q [] h
 | [e], fr, h, Q => r.ev e fr h fun v h => StarG h v fun xs => Q xs h
 | _, _, _, _ => False
noncomputable def tst (e : IExpr) (fr : Fm) (h : Hp) (Q : Bool → Hp → Prop) : Prop := r.ev e fr h fun v h => One (truthy v h) fun b => Q b h
noncomputable def tsts : List IExpr → Fm → Hp → (Bool → Hp → Prop) → Prop
 | [], _, h, Q => Q true h
 | e :: es, fr, h, Q => tst r e fr h fun b h => if b then tsts es fr h Q else Q false h
noncomputable def rangeL (a b : Int) : List Item := (List.range (b - a).toNat).map fun (i : Nat) => .one (.int (a + (i : Int)))
noncomputable def itemsOf : AObj → Option (List AV)
 | .list xs => some xs
 | .ro xs => some xs
 | .tuple xs => some xs
 | .dict es _ => some (es.map fun p => .int p.1)
 | _ => none
inductive SrS (h : Hp) (Q : List Item → (Hp → Prop) → Hp → Prop) : AV → Prop
 | mk {k : Nat} {o : AObj} {xs : List AV} (e : h[k]? = some o) (ei : itemsOf o = some xs) (q : Q (xs.map .one) (fun h => h[k]? = some o) h) : SrS h Q (.ref k)
inductive SrZ (h : Hp) (Q : List Item → (Hp → Prop) → Hp → Prop) : AV → AV → Prop
 | mk {i j : Nat} {xs ys : List AV} (e : h[i]? = some (.list xs)) (e' : h[j]? = some (.list ys)) (q : Q ((xs.zip ys).map fun p => .pair p.1 p.2) (fun h => h[i]? = some (.list xs) ∧ h[j]? = some (.list ys)) h) : SrZ h Q (.ref i) (.ref j)
inductive SrV (h : Hp) (Q : List Item → (Hp → Prop) → Hp → Prop) : AV → Prop
 | mk {k : Nat} {es : List (Int × AV)} {n : Nat} (e : h[k]? = some (.dict es n)) (q : Q (es.map fun p => .one p.2) (fun h => h[k]? = some (.dict es n)) h) : SrV h Q (.ref k)
inductive SrR (h : Hp) (Q : List Item → (Hp → Prop) → Hp → Prop) : AV → AV → Prop
 | mk {a b : Int} (la : -100000 ≤ a ∧ a ≤ 100000) (lb : -100000 ≤ b ∧ b ≤ 100000) (q : Q (rangeL a b) (fun _ => True) h) : SrR h Q (.int a) (.int b)
noncomputable def srcE (s : ISrc) (fr : Fm) (h : Hp) (Q : List Item → (Hp → Prop) → Hp → Prop) : Prop := match s with
 | .seq e => r.ev e fr h fun v h => SrS h Q v
 | .range1 b => r.ev b fr h fun v h => SrR h Q (.int 0) v
 | .range2 a b => r.ev a fr h fun u h => r.ev b fr h fun v h => SrR h Q u v
 | .zip a b => r.ev a fr h fun u h => r.ev b fr h fun v h => SrZ h Q u v
 | .values e => r.ev e fr h fun v h => SrV h Q v
inductive MonC (F : (Fm → Hp → List AV → Prop) → Prop) (Q : Fm → Hp → List AV → Prop) : Prop | mk (R : Fm → Hp → List AV → Prop) (p : F R) (k : ∀ fr h acc, R fr h acc → Q fr h acc)
inductive MonE (F : (AV → Hp → Prop) → Prop) (Q : AV → Hp → Prop) : Prop | mk (R : AV → Hp → Prop) (p : F R) (k : ∀ v h, R v h → Q v h)
inductive MonX (F : (AFlow → Fm → Hp → Prop) → Prop) (Q : AFlow → Fm → Hp → Prop) : Prop | mk (R : AFlow → Fm → Hp → Prop) (p : F R) (k : ∀ fl fr h, R fl fr h → Q fl fr h)
noncomputable def loopC (chk : Hp → Prop) (turn : Item → Fm → Hp → List AV → (Fm → Hp → List AV → Prop) → Prop) (Q : Fm → Hp → List AV → Prop) : List Item → Fm → Hp → List AV → Prop
 | [], fr, h, acc => chk h ∧ Q fr h acc
 | it :: its, fr, h, acc => chk h ∧ MonC (turn it fr h acc) fun fr h acc => loopC chk turn Q its fr h acc
noncomputable def compB (elt : IExpr) : List IGen → Fm → Hp → List AV → (Fm → Hp → List AV → Prop) → Prop
 | [], fr, h, acc, Q => r.ev elt fr h fun v h => acc.length ≤ 100000 ∧ Q fr h (acc ++ [v])
 | .mk pat src ifs :: gs, fr, h, acc, Q => srcE r src fr h fun items chk h =>
   loopC chk (fun it fr h acc Q => bindPat fr h (fun fr h => tsts r ifs fr h fun b h => if b then compB elt gs fr h acc Q else Q fr h acc) pat it) Q items fr h acc
noncomputable def compF (own free : List Nat) (fr : Fm) (h : Hp) : Fm :=
 { loc := fun _ => none, cel := fun x => (cellIdx h.length own x).or (if free.contains x then fr.cel x else none) }
noncomputable def compE (elt : IExpr) (g : IGen) (gs : List IGen) (own free : List Nat) (fr : Fm) (h : Hp) (Q : AV → Hp → Prop) : Prop := match g with
 | .mk pat src ifs => srcE r src fr h fun items chk h =>
   loopC chk (fun it fr h acc Q => bindPat fr h (fun fr h => tsts r ifs fr h fun b h => if b then compB r elt gs fr h acc Q else Q fr h acc) pat it)
    (fun _ h acc => Q (.ref h.length) (h ++ [.list acc])) items (compF own free fr h) (h ++ own.map fun _ => .cell none) []
noncomputable def loopF (chk : Hp → Prop) (turn : Item → Fm → Hp → (AFlow → Fm → Hp → Prop) → Prop) (Q : AFlow → Fm → Hp → Prop) : List Item → Fm → Hp → Prop
 | [], fr, h => chk h ∧ Q .next fr h
 | it :: its, fr, h => chk h ∧ MonX (turn it fr h) fun fl fr h => match fl with
  | .next => loopF chk turn Q its fr h
  | .cont => loopF chk turn Q its fr h
  | .brk => Q .next fr h
  | .ret v => Q (.ret v) fr h
noncomputable def loopW (c : IExpr) (a b : List IStmt) (Q : AFlow → Fm → Hp → Prop) : Nat → Fm → Hp → Prop
 | 0, _, _ => False
 | n + 1, fr, h => tst r c fr h fun t h => if t then r.ex a fr h fun fl fr h => (match fl with
   | .next => loopW c a b Q n fr h
   | .cont => loopW c a b Q n fr h
   | .brk => Q .next fr h
   | .ret v => Q (.ret v) fr h) else r.ex b fr h Q
noncomputable def keysG (f : AV) : List AV → Hp → (List Int → Hp → Prop) → Prop
 | [], h, Q => Q [] h
 | x :: xs, h, Q => r.cl f [x] [] h fun v h => IsI v fun i => keysG f xs h fun ks h => Q (i :: ks) h
noncomputable def setTgt (t : ITgt) (v : AV) (fr : Fm) (h : Hp) (Q : Fm → Hp → Prop) : Prop := match t with
 | .var x => setVar v fr h Q x
 | .attr o x => r.ev o fr h fun o h => setAttrA h (fun h => Q fr h) o x v
 | .idx o i => r.ev o fr h fun o h => r.ev i fr h fun i h => setIdx h (fun h => Q fr h) v o i
noncomputable def setTgts (v : AV) : List ITgt → Fm → Hp → (Fm → Hp → Prop) → Prop
 | [], fr, h, Q => Q fr h
 | t :: ts, fr, h, Q => setTgt r t v fr h fun fr h => setTgts v ts fr h Q
inductive EvC (fr : Fm) (h : Hp) (x : Nat) (Q : AV → Prop) : Prop | mk {k : Nat} {v : AV} (e : fr.cel x = some k) (e' : h[k]? = some (.cell (some v))) (q : Q v)
noncomputable def evVar (fr : Fm) (h : Hp) (Q : AV → Prop) : IVar → Prop
 | .loc x => One (fr.loc x) Q
 | .cel x => EvC fr h x Q
noncomputable def lamCells (fr : Fm) : List Nat → Option (List (Nat × Nat))
 | [] => some []
 | x :: xs => (fr.cel x).bind fun k => (lamCells fr xs).map ((x, k) :: ·)
inductive LamG (fr : Fm) (k : Nat) (Q : List (Nat × Nat) → Prop) : Prop | mk (f : IFn) (cs : List (Nat × Nat)) (e : prog.fns[k]? = some f) (e' : lamCells fr f.free = some cs) (q : Q cs)
inductive MethG (as st : List IExpr) (m : Nat) (fr : Fm) (h1 : Hp) (Q : AV → Hp → Prop) : AV → Prop
 | own {k d j : Nat} (o : h1[k]? = some (.inst d)) (e : prog.meths.lookup m = some j) (q : evs r as fr h1 fun vs h => stars r st fr h fun ws h => r.cl (.fn j) (.ref k :: (vs ++ ws)) [] h Q) : MethG as st m fr h1 Q (.ref k)
 | biL {k : Nat} {xs : List AV} (o : h1[k]? = some (.list xs)) (l : m ≤ 5) (es : st = []) (q : evs r as fr h1 fun vs h => bmeth h k Q m vs) : MethG as st m fr h1 Q (.ref k)
 | biD {k n : Nat} {es : List (Int × AV)} (o : h1[k]? = some (.dict es n)) (l : m = 6) (es : st = []) (q : evs r as fr h1 fun vs h => bmeth h k Q m vs) : MethG as st m fr h1 Q (.ref k)
 | biS {k : Nat} {es : List Int} (o : h1[k]? = some (.set es)) (l : m = 7) (es : st = []) (q : evs r as fr h1 fun vs h => bmeth h k Q m vs) : MethG as st m fr h1 Q (.ref k)
inductive SortG (f : AV) (h : Hp) (v : AV) (Q : List AV → Prop) : Prop | mk (kf : Nat) (xs : List AV) (ef : f = .ref kf) (e : Lst h v xs) (l : xs.length < 64) (q : Q xs)
noncomputable def evStep (e : IExpr) (fr : Fm) (h : Hp) (Q : AV → Hp → Prop) : Prop := match e with
 | .none => Q .none h
 | .bool b => Q (.bool b) h
 | .int i => Q (.int i) h
 | .loc x => evVar fr h (fun v => Q v h) (.loc x)
 | .cel x => evVar fr h (fun v => Q v h) (.cel x)
 | .fn k => Q (.fn k) h
 | .cls b => Q (.cls b) h
 | .gint _ i => Q (.int i) h
 | .bin op a b => r.ev a fr h fun x h => r.ev b fr h fun y h => binop h Q op x y
 | .neg a => r.ev a fr h fun x h => IsI x fun i => Q (.int (-i)) h
 | .not a => tst r a fr h fun b h => Q (.bool (!b)) h
 | .cmp op a b => r.ev a fr h fun x h => r.ev b fr h fun y h => cmpop h (fun b => Q (.bool b) h) op x y
 | .and a b => r.ev a fr h fun x h => One (truthy x h) fun t => if t then r.ev b fr h Q else Q x h
 | .or a b => r.ev a fr h fun x h => One (truthy x h) fun t => if t then Q x h else r.ev b fr h Q
 | .ite c a b => tst r c fr h fun t h => if t then r.ev a fr h Q else r.ev b fr h Q
 | .attr o x => r.ev o fr h fun o h => getAttrA h Q o x
 | .idx o i => r.ev o fr h fun o h => r.ev i fr h fun i h => getIdx h (fun v => Q v h) o i
 | .slice o lo hi st => r.ev o fr h fun o h => r.ev lo fr h fun lo h => r.ev hi fr h fun hi h => r.ev st fr h fun st h => getSlice lo hi st h Q o
 | .list es => evs r es fr h fun vs h => Q (.ref h.length) (h ++ [.list vs])
 | .tuple es => evs r es fr h fun vs h => Q (.ref h.length) (h ++ [.tuple vs])
 | .dict0 => Q (.ref h.length) (h ++ [.dict [] 0])
 | .comp elt g gs own free => compE r elt g gs own free fr h Q
 | .lam k => LamG fr k fun cs => Q (.ref h.length) (h ++ [.clos k cs])
 | .call f as _ kn kv => r.ev f fr h fun f h => evs r as fr h fun vs h => evs r kv fr h fun us h => r.cl f vs (kn.zip us) h Q
 | .meth o m as st => r.ev o fr h fun o h1 => MethG r as st m fr h1 Q o
 | .prim p as => evs r as fr h fun vs h => prim h Q p vs
 | .sortKey e f => r.ev e fr h fun v h => r.ev f fr h fun f h => SortG f h v fun xs => keysG r f xs h fun ks h => Q (.ref h.length) (h ++ [.list ((sortS (ks.zip xs)).map (·.2))])
inductive TryN (ss : List AV) (es : List (Int × AV)) (ki ks kd : Nat) (Q : Int → Prop) : Prop | mk (j : Int) (e : ss.getLast? = some (.int j)) (m : j ∈ es.map (·.1)) (n1 : ki ≠ ks) (n2 : ki ≠ kd) (n3 : ks ≠ kd) (q : Q j)
inductive TryG (x its d st : Nat) (fr : Fm) (h : Hp) (Q : AFlow → Fm → Hp → Prop) : Prop
 | mk (ki kd ks : Nat) (xs : List AV) (it lk i : Nat) (ys ss : List AV) (es : List (Int × AV)) (ver m : Nat) (f1 : fr.loc its = some (.ref ki)) (f2 : fr.loc d = some (.ref kd)) (f3 : fr.loc st = some (.ref ks))
   (o1 : h[ki]? = some (.list xs)) (o2 : xs.getLast? = some (.ref m)) (o3 : h[m]? = some (.meth it)) (o4 : h[it]? = some (.iter lk i)) (o5 : h[lk]? = some (.list ys)) (o6 : h[ks]? = some (.list ss)) (o7 : h[kd]? = some (.dict es ver))
   (l1 : xs.length ≤ 100000) (l2 : ss.length ≤ 100000) (l3 : es.length ≤ 100000)
   (q : ∀ v, ys[i]? = some v → Q .brk (fr.set x v) (h.set it (.iter lk (i + 1))))
   (q' : ys[i]? = none → TryN ss es ki ks kd fun j => ∀ n', Q .next fr ((((h.set it .junk).set ks (.list ss.dropLast)).set kd (.dict (ddel es j) n')).set ki (.list xs.dropLast))) : TryG x its d st fr h Q
inductive IteW (x : Nat) (a : List IStmt) (fr : Fm) (h : Hp) (Q : AFlow → Fm → Hp → Prop) : AV → Prop
 | none (q : r.ex a (fr.set x .none) h Q) : IteW x a fr h Q .none
 | some {v : AV} (n : isNoneA v = false) (q : Q .next (fr.set x v) h) : IteW x a fr h Q v
noncomputable def stStep (s : IStmt) (fr : Fm) (h : Hp) (Q : AFlow → Fm → Hp → Prop) : Prop := match s with
 | .asg ts e => r.ev e fr h fun v h => setTgts r v ts fr h fun fr h => Q .next fr h
 | .aug v op e => evVar fr h (fun x => r.ev e fr h fun y h => augop (fun z => setVar z fr h (fun fr h => Q .next fr h) v) op x y) v
 | .augAttr o a op e => r.ev o fr h fun o h => getAttrA h (fun x h => r.ev e fr h fun y h => augop (fun z => setAttrA h (fun h => Q .next fr h) o a z) op x y) o a
 | .expr e => r.ev e fr h fun _ h => Q .next fr h
 | .ret e => r.ev e fr h fun v h => Q (.ret v) fr h
 | .brk => Q .brk fr h
 | .cont => Q .cont fr h
 | .ite c a b => tst r c fr h fun t h => if t then r.ex a fr h Q else r.ex b fr h Q
 | .iteW x e a => r.ev e fr h fun v h => IteW r x a fr h Q v
 | .while c a b => loopW r c a b Q wB fr h
 | .for p src a => srcE r src fr h fun items chk h => loopF chk (fun it fr h Q => bindPat fr h (fun fr h => r.ex a fr h Q) p it) Q items fr h
 | .del o i => r.ev o fr h fun o h => r.ev i fr h fun i h => delIdx h (fun h => Q .next fr h) o i
 | .tryNext x its d st => TryG x its d st fr h Q
 | .fail => False
noncomputable def exStep : List IStmt → Fm → Hp → (AFlow → Fm → Hp → Prop) → Prop
 | [], fr, h, Q => Q .next fr h
 | s :: ss, fr, h, Q => MonX (stStep r s fr h) fun fl fr h => match fl with
  | .next => exStep ss fr h Q
  | fl => Q fl fr h
noncomputable def onRet (Q : AV → Hp → Prop) : AFlow → Fm → Hp → Prop := fun fl _ h => match fl with
 | .ret v => Q v h
 | .next => Q .none h
 | _ => False
inductive runF (f : IFn) (clos : List (Nat × Nat)) (as : List AV) (kw : List (Nat × AV)) (h : Hp) (Q : AV → Hp → Prop) : Prop
 | mk (b : List (Nat × AV)) (h1 : Hp) (e : abind f as kw h = some (b, h1)) (q : r.ex f.body (enterF f clos b h1).1 (enterF f clos b h1).2 (onRet Q)) : runF f clos as kw h Q
inductive clStep (as : List AV) (kw : List (Nat × AV)) (h : Hp) (Q : AV → Hp → Prop) : AV → Prop
 | fn {k : Nat} {f : IFn} (e : prog.fns[k]? = some f) (d : f.isDef = true) (q : runF r f [] as kw h Q) : clStep as kw h Q (.fn k)
 | ref {k j : Nat} {cs : List (Nat × Nat)} {f : IFn} (o : h[k]? = some (.clos j cs)) (e : prog.fns[j]? = some f) (d : f.isDef = false) (q : runF r f cs as kw h Q) : clStep as kw h Q (.ref k)
 | ts (q : r.cl (.fn prog.tsInit) (.ref (h.length + 1) :: as) kw (h ++ [.ns [], .inst h.length]) fun v h' => v = .none ∧ Q (.ref (h.length + 1)) h') : clStep as kw h Q (.cls false)
 | nd (q : r.cl (.fn prog.ndInit) (.ref (h.length + 1) :: as) kw (h ++ [.hid, .node h.length none none none]) fun v h' => v = .none ∧ Q (.ref (h.length + 1)) h') : clStep as kw h Q (.cls true)
end
noncomputable def go : Nat → Rec
 | 0 => ⟨fun _ _ _ _ => False, fun _ _ _ _ => False, fun _ _ _ _ _ => False⟩
 | n + 1 => ⟨fun e fr h => MonE (evStep (go n) e fr h), fun b fr h => MonX (exStep (go n) b fr h), fun f as kw h => MonE fun Q => clStep (go n) as kw h Q f⟩
end Mine
namespace Mine
section
variable {n : Nat} {fr : Fm} {h : Hp}
theorem ev_mono {e : IExpr} {Q Q' : AV → Hp → Prop} (q : (go n).ev e fr h Q) (k : ∀ v h, Q v h → Q' v h) : (go n).ev e fr h Q' := by
 induction n with
 | zero => exact q
 | succ n => exact MonE.casesOn q fun R q i => ⟨R, q, fun v h z => k v h (i v h z)⟩
theorem ex_mono {b : List IStmt} {Q Q' : AFlow → Fm → Hp → Prop} (q : (go n).ex b fr h Q) (k : ∀ f fr h, Q f fr h → Q' f fr h) : (go n).ex b fr h Q' := by
 induction n with
 | zero => exact q
 | succ n => exact MonX.casesOn q fun R q i => ⟨R, q, fun v f h z => k v f h (i v f h z)⟩
theorem cl_mono {f : AV} {as : List AV} {kw : List (Nat × AV)} {Q Q' : AV → Hp → Prop} (q : (go n).cl f as kw h Q) (k : ∀ v h, Q v h → Q' v h) : (go n).cl f as kw h Q' := by
 induction n with
 | zero => exact q
 | succ n => exact MonE.casesOn q fun R q i => ⟨R, q, fun v h z => k v h (i v h z)⟩
theorem evs_mono {es : List IExpr} {Q Q' : List AV → Hp → Prop} (q : evs (go n) es fr h Q) (k : ∀ v h, Q v h → Q' v h) : evs (go n) es fr h Q' := by
 induction es generalizing h Q Q' with
 | nil => exact k _ _ q
 | cons e es ih => exact ev_mono q fun _ _ q => ih q fun _ _ q => k _ _ q
theorem tst_mono {e : IExpr} {Q Q' : Bool → Hp → Prop} (q : tst (go n) e fr h Q) (k : ∀ v h, Q v h → Q' v h) : tst (go n) e fr h Q' := ev_mono q fun _ _ z => One.casesOn z fun b e q => ⟨b, e, k _ _ q⟩
theorem tsts_mono {es : List IExpr} {Q Q' : Bool → Hp → Prop} (q : tsts (go n) es fr h Q) (k : ∀ v h, Q v h → Q' v h) : tsts (go n) es fr h Q' := by
 induction es generalizing h Q Q' with
 | nil => exact k _ _ q
 | cons e es ih =>
  exact tst_mono q fun b _ q => by
   induction b with
   | true => exact ih q k
   | false => exact k _ _ q
theorem setVar_mono {v : IVar} {x : AV} {fr : Fm} {h : Hp} {Q Q' : Fm → Hp → Prop} (q : setVar x fr h Q v) (k : ∀ f h, Q f h → Q' f h) : setVar x fr h Q' v := by
 induction v with
 | loc y => exact k _ _ q
 | cel y => exact StC.casesOn q fun e e' q => .mk e e' (k _ _ q)
theorem setVars_mono : ∀ {vs : List IVar} {xs : List AV} {fr : Fm} {h : Hp} {Q Q' : Fm → Hp → Prop}, setVars vs xs fr h Q → (∀ f h, Q f h → Q' f h) → setVars vs xs fr h Q'
 | [], [], _, _, _, _, q, k => k _ _ q
 | _ :: _, _ :: _, _, _, _, _, q, k => setVar_mono q fun _ _ q => setVars_mono q k
theorem bindPat_mono {p : IPat} {it : Item} {Q Q' : Fm → Hp → Prop} (q : bindPat fr h Q p it) (k : ∀ f h, Q f h → Q' f h) : bindPat fr h Q' p it := by
 induction p with
 | one v => exact BindO.casesOn q fun q => .mk (setVar_mono q k)
 | tup vs => exact BindT.casesOn q (fun e l q => .tup e l (setVars_mono q k)) fun l q => .pair l (setVars_mono q k)
end
end Mine
set_option Elab.async false
set_option maxRecDepth 100000
set_option maxHeartbeats 8000000
namespace Mine
open PySem PySem.W PyProof.Rows
noncomputable def vw06 : Program := { PySem.Challenge.pw_dn0053_06 with main := { PySem.Challenge.pw_dn0053_06.main with body := PySem.Challenge.pw_dn0053_06.main.body.drop 15 } }
noncomputable def ls06 : List Str := ["_wall", "insort_right", "bisect_right", "bisect_left", "_NODE_OUT", "_NODE_DONE", "_NodeInfo", "CycleError", "TopologicalSorter", "_law_next", "_law_bounds", "_law_sorter"].map Str.ofString
local macro_rules
 | `(tactic| o_law) => `(tactic| refine holds_law (by decide +kernel) fun said => ?_)
local macro_rules
 | `(tactic| o_head $H) => `(tactic| (refine holds_open (q := vw06) (loose := ls06) (Xt := fun s => xlAt vw06 [] s && recOk (RowW.records PySem.Challenge.rw_dn0053_06.row.toRowW) s) (XP := XL vw06 []) (Yf := Hook.obs $H) (Ya := Hook.val $H) (YP := Hook.says $H) (N := 2836) ?hl (Hook.of $H) (Hook.keeps $H) (fun s e => xl_of s (Bool.and_eq_true_iff.mp e).1) XL.keeps (by rfl) (by rfl) (by rfl) (fun s e => recFacts_of (Bool.and_eq_true_iff.mp e).2) (by rfl) (by first | assumption | decide +kernel) (by decide +kernel) ⟨rfl, rfl, rfl, rfl, rfl, by decide +kernel⟩ ?hw ?hc; (case hl => (intro w; kernel_rfl)); all_goals (rename_i x; clear x)))
open_top hd for PySem.Challenge.rw_dn0053_06
end Mine
namespace Mine
open PySem PySem.W
set_option genCtorIdx true in
inductive GV where | fn (k : Nat) | cls (b : Bool) | int (i : Int) | bi (s : String) | ty (s : String)
noncomputable def nmL : List Str := ["append", "extend", "pop", "insert", "clear", "index", "get", "add", "__next__", "node", "npredecessors", "successors", "self", "graph", "_node2info", "_ready_nodes", "_npassedout", "_nfinished", "predecessors", "result", "nodeinfo", "_get_nodeinfo", "pred", "pred_info", "i", "cycle", "_find_cycle", "n2i", "is_active", "nodes", "stat", "successor", "successor_info", "stack", "itstack", "seen", "node2stacki", "a", "x", "lo", "hi", "key", "mid", "adds", "sorter", "place", "ahead", "prepare", "groups", "get_ready", "line", "done", "numbers", "under", "size", "y", "levels", "level", "freed", "k", "one", "script", "places", "worth", "row", "aheads", "below", "due", "names", "most", "above", "full", "tight", "alone", "group", "without", "gaps", "told", "far", "dues", "to", "bounds", "on", "ways", "j", "kind", "hands", "width", "many", "second", "bound", "turned", "step", "past", "marks", "waits", "ends", "steps", "turn", "late", "counts"].map Str.ofString
noncomputable def nm (x : Nat) : Str := (nmL[x]?).getD ⟨#[2000000 + x]⟩
noncomputable def glL : List (Str × GV) := ([("len", .bi "len"), ("abs", .bi "abs"), ("sum", .bi "sum"), ("max", .bi "max"), ("min", .bi "min"), ("sorted", .bi "sorted"), ("iter", .bi "iter"), ("list", .ty "list"), ("tuple", .ty "tuple"), ("bool", .ty "bool"), ("set", .ty "set"), ("range", .ty "range"), ("zip", .ty "zip"), ("StopIteration", .ty "StopIteration"), ("_NODE_OUT", .int (-1)), ("_NODE_DONE", .int (-2)), ("_NodeInfo", .cls true), ("TopologicalSorter", .cls false), ("insort_right", .fn 9), ("bisect_right", .fn 10), ("bisect_left", .fn 11), ("_law_sorter", .fn 13), ("_law_next", .fn 14), ("_law_bounds", .fn 15)] : List (String × GV)).map fun p => (Str.ofString p.1, p.2)
noncomputable def glob (s : Str) : Option GV := glL.lookup s
noncomputable def attrs : List Nat := [14, 15, 16, 17, 9, 10, 11, 8]
noncomputable def lamLn : List (Nat × Nat) := [(227, 16), (231, 17)]
noncomputable def lamSc (sc : Scope) : Bool := (sc.names.lookup (Str.ofString "script")).isSome
noncomputable def adL : List Addr := [63, 100, 107, 114, 119, 126, 133, 147, 154, 30, 39, 48, 188, 183, 173, 178]
noncomputable def fad (k : Nat) : Addr := (adL[k]?).getD 0
noncomputable def cTS : Addr := 164
noncomputable def cND : Addr := 67
noncomputable def clsA (b : Bool) : Addr := if b then cND else cTS
noncomputable def tabA : Addr := 185
noncomputable def codA : Addr := 187
noncomputable def slN (x : Nat) : Nat := if x = 9 then 0 else if x = 10 then 1 else 2
noncomputable def lq : Str := "law.<locals>.<lambda>"
noncomputable def kf (P : Params) : Frag := hd.heap_1 P
noncomputable def pw : Program := PySem.Challenge.rw_dn0053_06.row.prog
end Mine
namespace Mine
open PySem PySem.W PySem.Calls PyProof.Rows
noncomputable def OptR {α β : Type} (R : α → β → Prop) : Option α → Option β → Prop
 | none, none => True
 | some a, some b => R a b
 | _, _ => False
section
variable {α β : Type} {R R' : α → β → Prop} {x : Option α} {y : Option β}
theorem OptR.sm {a : α} (h : OptR R (some a) y) : One y (R a) := by
 cases y with
 | none => exact h.elim
 | some b => exact ⟨b, rfl, h⟩
theorem OptR.some_left {a : α} (h : OptR R x y) (e : x = some a) : One y (R a) := OptR.sm (e ▸ h)
theorem OptR.none_left (h : OptR R x y) (e : x = none) : y = none := by
 subst e
 cases y with
 | none => rfl
 | some b => exact h.elim
theorem OptR.mono (h : OptR R x y) (k : ∀ a b, R a b → R' a b) : OptR R' x y := by
 cases x <;> cases y <;> first | exact trivial | exact h.elim | exact k _ _ h
inductive LR (R : α → β → Prop) : List α → List β → Prop
 | nil : LR R [] []
 | cons {x : α} {y : β} {xs : List α} {ys : List β} (h : R x y) (t : LR R xs ys) : LR R (x :: xs) (y :: ys)
namespace LR
variable {xs xs' : List α} {ys ys' : List β}
theorem length (h : LR R xs ys) : xs.length = ys.length := by
 induction h with
 | nil => rfl
 | cons _ _ ih => exact congrArg (· + 1) ih
theorem nth (h : LR R xs ys) : ∀ i : Nat, OptR R xs[i]? ys[i]? := by
 induction h with
 | nil => exact fun _ => trivial
 | cons h _ ih => intro i; cases i with
  | zero => exact h
  | succ i => exact ih i
theorem of (e : xs.length = ys.length) (h : ∀ (i : Nat) x y, xs[i]? = some x → ys[i]? = some y → R x y) : LR R xs ys := by
 induction xs generalizing ys with
 | nil => cases ys with
  | nil => exact .nil
  | cons _ _ => cases e
 | cons x xs ih => cases ys with
  | nil => cases e
  | cons y ys => exact .cons (h 0 x y rfl rfl) (ih (Nat.succ.inj e) fun i => h (i + 1))
theorem one {x : α} {y : β} (h : R x y) : LR R [x] [y] := .cons h .nil
theorem mono (h : LR R xs ys) (k : ∀ a b, R a b → R' a b) : LR R' xs ys := by
 induction h with
 | nil => exact .nil
 | cons h _ ih => exact .cons (k _ _ h) ih
theorem append (h : LR R xs ys) (h' : LR R xs' ys') : LR R (xs ++ xs') (ys ++ ys') := by
 induction h with
 | nil => exact h'
 | cons h _ ih => exact .cons h ih
theorem take (h : LR R xs ys) (n : Nat) : LR R (xs.take n) (ys.take n) := by
 induction h generalizing n with
 | nil => cases n <;> exact .nil
 | cons h _ ih => cases n with
  | zero => exact .nil
  | succ n => exact .cons h (ih n)
theorem drop (h : LR R xs ys) (n : Nat) : LR R (xs.drop n) (ys.drop n) := by
 induction h generalizing n with
 | nil => cases n <;> exact .nil
 | cons h t ih => cases n with
  | zero => exact .cons h t
  | succ n => exact ih n
theorem reverse (h : LR R xs ys) : LR R xs.reverse ys.reverse := by
 induction h with
 | nil => exact .nil
 | cons h _ ih => rw [List.reverse_cons, List.reverse_cons]; exact ih.append (one h)
theorem set (h : LR R xs ys) {x : α} {y : β} (n : Nat) (hxy : R x y) : LR R (xs.set n x) (ys.set n y) := by
 induction h generalizing n with
 | nil => exact .nil
 | cons h t ih => cases n with
  | zero => exact .cons hxy t
  | succ n => exact .cons h (ih n)
theorem getLast? (h : LR R xs ys) : OptR R xs.getLast? ys.getLast? := by
 rw [List.getLast?_eq_getElem?, List.getLast?_eq_getElem?, h.length]; exact h.nth _
theorem dropLast (h : LR R xs ys) : LR R xs.dropLast ys.dropLast := by
 rw [List.dropLast_eq_take, List.dropLast_eq_take, h.length]; exact h.take _
theorem replicate {x : α} {y : β} (n : Nat) (h : R x y) : LR R (List.replicate n x) (List.replicate n y) := by
 induction n with
 | zero => exact .nil
 | succ n ih => exact .cons h ih
theorem isEmpty (h : LR R xs ys) : xs.isEmpty = ys.isEmpty := by cases h <;> rfl
end LR
end
@[elab_as_elim] theorem LR.c {α β : Type} {R : α → β → Prop} {x : α} {xs : List α} {C : List β → Prop} {ys : List β} (h : LR R (x :: xs) ys) (k : ∀ y r, R x y → LR R xs r → C (y :: r)) : C ys := by
 cases h with
 | cons h t => exact k _ _ h t
@[elab_as_elim] theorem LR.n {α β : Type} {R : α → β → Prop} {C : List β → Prop} {ys : List β} (h : LR R ([] : List α) ys) (k : C []) : C ys := by cases h; exact k
@[elab_as_elim] theorem LR.c1 {α β : Type} {R : α → β → Prop} {x : α} {C : List β → Prop} {ys : List β} (h : LR R [x] ys) (k : ∀ y, R x y → C [y]) : C ys := h.c fun y r hy t => t.n (C := fun r => C (y :: r)) (k y hy)
inductive VInt (i : Int) : Value → Prop | mk {t : Tok} : VInt i (.int i t)
inductive VRef (α : List Addr) (k : Nat) : Value → Prop | mk {a : Addr} (e : α[k]? = some a) : VRef α k (.ref a)
section
variable (α : List Addr)
noncomputable def VR : AV → Value → Prop
 | .none => Eq .none
 | .bool b => Eq (.bool b)
 | .int i => VInt i
 | .ref k => VRef α k
 | .fn k => Eq (.ref (fad k))
 | .cls b => Eq (.ref (clsA b))
noncomputable def KR (p : Nat × AV) (q : Str × Value) : Prop := q.1 = nm p.1 ∧ VR α p.2 q.2
noncomputable def ER (p : Int × AV) (q : Int × Value) : Prop := p.1 = q.1 ∧ VR α p.2 q.2
noncomputable def kd (w : World) : PySem.KeyKind pw w Int := intKind pw w
inductive CodeOk (s : Heap) (c : Addr) (q : Str) : Prop
 | mk {o : Obj} {vs : Array Value} {t : Tok} (e : s.get? c = some o) (d : o.data = .fields vs) (v : vs[1]? = some (.str q t)) (n : c ∉ α) (nt : c ≠ tabA)
theorem CodeOk.crec {α : List Addr} {s : Heap} {c : Addr} {q : Str} (h : CodeOk α s c q) : s.CodeRec (.ref c) q := by
 cases h with
 | mk e d v => exact ⟨c, _, _, _, rfl, e, d, v⟩
end
section
variable (sc : Scope)
inductive IsLoc (id : Str) (x : Nat) : Prop | mk (e : id = nm x) (l : sc.names.lookup id = some .local) (d : (id == ("__debug__" : Str)) = false)
noncomputable def CF (id : Str) : Prop := sc.names.lookup id = some .cell ∨ sc.names.lookup id = some .free
inductive IsCel (id : Str) (x : Nat) : Prop | mk (e : id = nm x) (l : CF sc id) (d : (id == ("__debug__" : Str)) = false) (d' : (id == ("__classdict__" : Str)) = false)
inductive IsGlo (id : Str) (g : GV) : Prop | mk (l : sc.names.lookup id = some .globalImplicit) (d : (id == ("__debug__" : Str)) = false) (e : glob id = some g)
noncomputable def ofKind (k : NameKind) (names : List (Str × NameKind)) : List Str := (names.filter fun p => p.2 == k).map (·.1)
inductive CL : Expr → IExpr → Prop
 | idx {i j : Str} {p p' q : Pos} {x y : Nat} (hx : IsCel sc i x) (hy : IsLoc sc j y) : CL (.Subscript (.Name i p) (.Name j p') q) (.idx (.cel x) (.loc y))
 | lst {i j : Str} {p p' q q' : Pos} {x y : Nat} (hx : IsCel sc i x) (hy : IsLoc sc j y) : CL (.List [.Subscript (.Name i p) (.Name j p') q] q') (.list [.idx (.cel x) (.loc y)])
 | index {i j : Str} {p p' q q' : Pos} {x y : Nat} (hx : IsCel sc i x) (hy : IsLoc sc j y) (hq : q.endLine = q'.line) : CL (.Call (.Attribute (.Name i p) (nm 5) q) [.Name j p'] [] q') (.meth (.cel x) 5 [.loc y] [])
end
noncomputable def BindL (x : Str) : Prop := ∀ (m q : Str) (p : Pos) (body : Expr) (sc : Scope) (cl : List (Str × Addr)) (pm cd ct v : Value), bindArgs (kla_fn m q ⟨[], [⟨x, none, p⟩], none, [], [], none, []⟩ body sc cl pm cd ct) ⟨[v], []⟩ = pure [(x, v)]
inductive LamOk (k : Nat) (ar : Arguments) (e : Expr) (sc : Scope) : Prop
 | mk {b : IExpr} {x : Nat} {fs : List Nat} {p : Pos} (l : CL sc e b) (f : prog.fns[k]? = some ⟨[x], [], [], none, [(1, [])], [], fs, false, [.ret b]⟩) (free : ofKind .free sc.names = fs.map nm) (kind : sc.kind = .function) (cor : sc.isCoroutine = false) (gen : sc.isGenerator = false)
   (nocell : ∀ x ∈ sc.names, x.2 ≠ .cell) (lamSc : lamSc sc = false) (ea : ar = ⟨[], [⟨nm x, none, p⟩], none, [], [], none, []⟩) (lx : sc.names.lookup (nm x) = some .local) (bl : BindL (nm x)) : LamOk k ar e sc
section
variable (α : List Addr) (s : Heap)
inductive OList (xs : List AV) : Obj → Prop | mk {vs : Array Value} {n : Nat} (r : LR (VR α) xs vs.toList) : OList xs ⟨.type "list", none, .seq vs n, #[]⟩
inductive ORo (xs : List AV) (o : Obj) : Prop | mk {vs : Array Value} {n : Nat} (c : o.cls = .type "list") (d : o.data = .seq vs n) (r : LR (VR α) xs vs.toList)
inductive OTup (xs : List AV) : Obj → Prop | mk {vs : Array Value} {n : Nat} (r : LR (VR α) xs vs.toList) : OTup xs ⟨.type "tuple", none, .seq vs n, #[]⟩
inductive ODict (w : World) (es : List (Int × AV)) (ver : Nat) : Obj → Prop
 | mk {ens : Array DictEntry} {kvs : List (Int × Value)} (k : KeysOf (kd w) ens) (p : Pairs (kd w) ens.toList kvs) (nd : (kvs.map (·.1)).Nodup) (r : LR (ER α) es kvs) : ODict w es ver ⟨.type "dict", none, .dict ens ver, #[]⟩
inductive OSet (w : World) (xs : List Int) (o : Obj) : Prop | mk (e : o.SetObjOf (kd w) (fun k => decide (k ∈ xs)) xs.length) (l : xs.length < 4000)
inductive ONode (d : Nat) (a b c : Option AV) : Obj → Prop
 | mk {dx : Addr} {sl : Array (Option Value)} (e : α[d]? = some dx) (r : ∀ x v, nodeF a b c x = some v → One (sl[slN x]?).join (VR α v)) : ONode d a b c ⟨.ref cND, some dx, .plain, sl⟩
inductive OInst (d : Nat) : Obj → Prop | mk {dx : Addr} (e : α[d]? = some dx) : OInst d (instObj cTS dx)
inductive ONs (es : List (Nat × AV)) : Obj → Prop
 | mk {ens : Array DictEntry} {n : Nat} (k : StrKeys ens) (l : ens.size ≤ es.length) (r : ∀ x v, es.lookup x = some v → One (nsFind ens (nm x)) (VR α v)) (r' : ∀ name u, nsFind ens name = some u → name ∈ attrs.map nm) : ONs es ⟨.type "dict", none, .dict ens n, #[]⟩
inductive OCell (v : Option AV) (o : Obj) : Prop | mk {u : Option Value} (d : o.data = .cell u) (r : OptR (VR α) v u)
inductive OClos (k : Nat) (cs : List (Nat × Nat)) : Obj → Prop
 | mk {ar : Arguments} {e : Expr} {sc : Scope} {c' : Addr} {cl : List (Str × Addr)} {pm ctv : Value} (l : LamOk k ar e sc) (c : CodeOk α s c' lq) (f : ∀ n ∈ ofKind .free sc.names, ∃ a, cl.lookup n = some a)
   (r : ∀ x j, cs.lookup x = some j → One α[j]? fun a => cl.lookup (nm x) = some a) : OClos k cs (kla_obj "<lambda>" lq ar e sc cl pm c' ctv)
inductive OIter (l i : Nat) (o : Obj) : Prop | mk {la : Addr} (e : α[l]? = some la) (c : o.cls = .type "list_iterator") (n : o.dict = none) (d : o.data = .fields #[.ref la, .int i 0])
inductive OMeth (it : Nat) (o : Obj) : Prop | mk {a : Addr} (e : α[it]? = some a) (c : o.cls = .type "method-wrapper") (d : o.data = .fields #[.builtin "list_iterator.__next__", .ref a])
noncomputable def ObjR (w : World) : AObj → Obj → Prop
 | .list xs => OList α xs
 | .ro xs => ORo α xs
 | .tuple xs => OTup α xs
 | .dict es ver => ODict α w es ver
 | .set xs => OSet w xs
 | .hid => Eq emptyDict
 | .node d a b c => ONode α d a b c
 | .inst d => OInst α d
 | .ns es => ONs α es
 | .cell v => OCell α v
 | .clos k cs => OClos α s k cs
 | .iter l i => OIter α l i
 | .meth it => OMeth α it
 | .junk => fun _ => True
end
theorem pre_get {α α' : List Addr} (p : α <+: α') {k : Nat} {a : Addr} (e : α[k]? = some a) : α'[k]? = some a := by
 cases p with
 | intro t p => subst p; rw [List.getElem?_append_left (List.getElem?_eq_some_iff.mp e).1]; exact e
section
variable {α α' : List Addr} {s s' : Heap}
theorem VR.mono (p : α <+: α') {x : AV} {v : Value} (h : VR α x v) : VR α' x v := by
 induction x with
 | ref k => exact VRef.casesOn h fun e => .mk (pre_get p e)
 | _ => exact h
theorem VR.monoL (p : α <+: α') {xs : List AV} {vs : List Value} (h : LR (VR α) xs vs) : LR (VR α') xs vs := h.mono fun _ _ => VR.mono p
theorem OptR.up (p : α <+: α') {x : Option AV} {v : Option Value} (h : OptR (VR α) x v) : OptR (VR α') x v := h.mono fun _ _ => VR.mono p
theorem one_mono {β : Type} {o : Option β} {Q Q' : β → Prop} (h : One o Q) (k : ∀ b, Q b → Q' b) : One o Q' := by
 cases h with
 | mk b e q => exact ⟨b, e, k b q⟩
theorem one_pre (p : α <+: α') {j : Nat} {Q : Addr → Prop} (h : One α[j]? Q) : One α'[j]? Q := by
 cases h with
 | mk b e q => exact ⟨b, pre_get p e, q⟩
theorem ObjR.mono {w : World} (p : α <+: α') (k : ∀ c, CodeOk α s c lq → CodeOk α' s' c lq) {o : AObj} {c : Obj} (h : ObjR α s w o c) : ObjR α' s' w o c := by
 induction o with
 | list xs => exact OList.casesOn h fun r => .mk (VR.monoL p r)
 | ro xs => exact ORo.casesOn h fun c d r => .mk c d (VR.monoL p r)
 | tuple xs => exact OTup.casesOn h fun r => .mk (VR.monoL p r)
 | dict es ver => exact ODict.casesOn h fun k q nd r => .mk k q nd (r.mono fun _ _ z => ⟨z.1, z.2.mono p⟩)
 | node d a b c => exact ONode.casesOn h fun e r => .mk (pre_get p e) fun x v q => one_mono (r x v q) fun _ => VR.mono p
 | inst d => exact OInst.casesOn h fun e => .mk (pre_get p e)
 | ns es => exact ONs.casesOn h fun k l r r' => .mk k l (fun x v q => one_mono (r x v q) fun _ => VR.mono p) r'
 | cell v => exact OCell.casesOn h fun d r => .mk d (OptR.up p r)
 | clos f cs => exact OClos.casesOn h fun l c f r => .mk l (k _ c) f fun x j q => one_pre p (r x j q)
 | iter l i => exact OIter.casesOn h fun e c n d => .mk (pre_get p e) c n d
 | meth it => exact OMeth.casesOn h fun e c d => .mk (pre_get p e) c d
 | _ => exact h
end
end Mine
namespace Mine
open PySem PySem.W PySem.Calls PyProof.Rows
structure Cx where
 B : Heap
 w : World
 mg : Str → Option Value
 mb : Str → Option Value
 A : Around
 env : Env
structure Sg where
 α : List Addr
 h : Hp
 s : Shared
noncomputable abbrev Sg.hp (g : Sg) : Heap := g.s.heap
noncomputable def Cx.M (C : Cx) : Model := model pw C.w
noncomputable abbrev FF : Value → Shared → Prop := fun _ _ => False
noncomputable def Cx.wp (C : Cx) {β : Type} (m : Sem β) (K : β → Shared → Prop) (s : Shared) : Prop := wpAny C.M C.A m K FF s
noncomputable def frs (A : Around) : List Addr := (A.frames.getD []).filterMap (·.frame)
noncomputable def Cx.L (C : Cx) : Addr := C.env.locals
noncomputable def SzOk : AObj → Prop
 | .list xs => xs.length ≤ 200000
 | .ro xs => xs.length ≤ 200000
 | .tuple xs => xs.length ≤ 200000
 | _ => True
noncomputable def wk : AObj → Nat × Nat
 | .node d _ _ _ => (1, d)
 | .inst d => (2, d)
 | .hid => (3, 0)
 | .ns _ => (4, 0)
 | _ => (0, 0)
structure WF (h : Hp) : Prop where
 hid : ∀ k d : Nat, (h.map wk)[k]? = some (1, d) → (h.map wk)[d]? = some (3, 0)
 ins : ∀ k d : Nat, (h.map wk)[k]? = some (2, d) → (h.map wk)[d]? = some (4, 0)
 sz : ∀ o ∈ h, SzOk o
inductive TabOk (α : List Addr) (s : Heap) : Prop
 | mk {ps : Array Value} (e : s.get? tabA = some (tabObj ps)) (t : TriplesOk ps.toList) (c : ∀ pos cv, codeAmong pos ps.toList = some cv → ∃ c, cv = .ref c ∧ CodeOk α s c lq) : TabOk α s
inductive ObAt (α : List Addr) (s : Heap) (w : World) (o : AObj) (a : Addr) : Prop | mk (c : Obj) (e : s.get? a = some c) (r : ObjR α s w o c)
structure Sim (C : Cx) (α : List Addr) (h : Hp) (s : Heap) : Prop where
 len : α.length = h.length
 nd : α.Nodup
 obj : ∀ (k : Nat) (o : AObj) (a : Addr), h[k]? = some o → α[k]? = some a → ObAt α s C.w o a
 base : C.B.StaysIn s
 own : ∀ (k : Nat) (o : AObj) (a : Addr), h[k]? = some o → α[k]? = some a → (∃ xs, o = .ro xs) ∨ C.B.get? a = none
 tab : TabOk α s
 tabN : tabA ∉ α
 wf : WF h
inductive NsR (α : List Addr) (fr : Fm) (L : Addr) (s : Heap) : Prop | mk {m : Str → Option Value} (n : s.Ns L m) (r : ∀ x v, fr.loc x = some v → One (m (nm x)) (VR α v))
inductive Frs (C : Cx) (s : Heap) : Prop | mk {l : List Env} (e : C.A.frames = some l) (f : s.FunFrames C.B l)
structure InvH (C : Cx) (fr : Fm) (α : List Addr) (h : Hp) (s : Heap) : Prop where
 sim : Sim C α h s
 ns : NsR α fr C.L s
 cel : ∀ x k, fr.cel x = some k → One α[k]? fun a => C.env.cells.lookup (nm x) = some a
 locN : C.L ∉ α
 locB : C.B.get? C.L = none
 locT : C.L ≠ tabA
 FN : ∀ b ∈ frs C.A, b ∉ α ∧ b ≠ tabA
 FF : Frs C s
 hd : ∃ e0 outer, C.A.frames = some (e0 :: outer) ∧ e0.frame = C.env.frame
noncomputable def Inv (C : Cx) (fr : Fm) (g : Sg) : Prop := InvH C fr g.α g.h g.s.heap
inductive Kept (α X F : List Addr) (b : Addr) (o : Obj) (r : Option Obj) : Prop
 | mk (o' : Obj) (e : r = some o') (k : b ∉ α → b ∉ X → b ≠ tabA → (b ∉ F → o' = o) ∧ ∃ sl, o' = { o with slots := sl }) : Kept α X F b o r
structure ExtX (X F : List Addr) (g g' : Sg) : Prop where
 pre : g.α <+: g'.α
 new : ∀ a ∈ g'.α, a ∈ g.α ∨ g.s.heap.get? a = none
 at_ : ∀ b o, g.s.heap.get? b = some o → Kept g.α X F b o (g'.s.heap.get? b)
 gens : g'.s.gens = g.s.gens
 os : g'.s.os = g.s.os
noncomputable def Ext (C : Cx) (g g' : Sg) : Prop := ExtX [C.L] (frs C.A) g g'
noncomputable def isStrV : Option Value → Bool
 | some (.str _ _) => true
 | _ => false
noncomputable def isCode (c : Obj) : Bool := match c.data with
 | .fields vs => isStrV vs[1]?
 | _ => false
theorem isCode_of {c : Obj} {vs : Array Value} {q : Str} {t : Tok} (d : c.data = .fields vs) (v : vs[1]? = some (.str q t)) : isCode c = true := by unfold isCode; rw [d]; exact congrArg isStrV v
theorem fresh_size (h : Heap) : h.get? h.objs.size = none := Heap.get?_none_of_le (Nat.le_refl _)
theorem noS {β : Type} {x : β} {P : Prop} (e : none = some x) : P := nomatch e
theorem some_ne {β : Type} {o : Option β} {x : β} {P : Prop} (e : o = some x) (e' : o = none) : P := by rw [e] at e'; cases e'
namespace ExtX
variable {X X' F : List Addr} {g g' g'' : Sg}
theorem of {α' : List Addr} {h' : Hp} {s' : Shared} (p : g.α <+: α') (n : ∀ a ∈ α', a ∈ g.α ∨ g.s.heap.get? a = none) (k : ∀ b o, b ∉ g.α → b ∉ X → b ≠ tabA → g.s.heap.get? b = some o → s'.heap.get? b = some o) (l : ∀ b o, g.s.heap.get? b = some o → ∃ o', s'.heap.get? b = some o')
  (eg : s'.gens = g.s.gens := by rfl) (eo : s'.os = g.s.os := by rfl) : ExtX X F g ⟨α', h', s'⟩ :=
 ⟨p, n, fun b o e => (l b o e).elim fun o' e' => ⟨o', e', fun n1 n2 n3 => have z : o' = o := Option.some.inj (e'.symm.trans (k b o n1 n2 n3 e)); ⟨fun _ => z, o.slots, z⟩⟩, eg, eo⟩
theorem keeps {h' : Hp} {s' : Shared} (k : ∀ b o, g.s.heap.get? b = some o → s'.heap.get? b = some o) (eg : s'.gens = g.s.gens := by rfl) (eo : s'.os = g.s.os := by rfl) : ExtX X F g ⟨g.α, h', s'⟩ :=
 of (List.prefix_refl _) (fun _ h => .inl h) (fun b o _ _ _ => k b o) (fun b o e => ⟨o, k b o e⟩) eg eo
theorem same {h' : Hp} {s' : Shared} (e : s'.heap = g.s.heap := by rfl) (eg : s'.gens = g.s.gens := by rfl) (eo : s'.os = g.s.os := by rfl) : ExtX X F g ⟨g.α, h', s'⟩ := keeps (fun _ _ z => e ▸ z) eg eo
theorem notin (x : ExtX X F g g') {b : Addr} {o : Obj} (hb : b ∉ g.α) (e : g.s.heap.get? b = some o) : b ∉ g'.α := fun hm => (x.new b hm).elim hb (some_ne e)
theorem live (x : ExtX X F g g') {b : Addr} {o : Obj} (e : g.s.heap.get? b = some o) : ∃ o', g'.s.heap.get? b = some o' := by
 cases x.at_ b o e with
 | mk o' e' _ => exact ⟨o', e'⟩
theorem fresh (x : ExtX X F g g') {a : Addr} (e : g'.s.heap.get? a = none) : g.s.heap.get? a = none := by
 cases z : g.s.heap.get? a with
 | none => rfl
 | some o => exact (x.live z).elim fun _ q => some_ne q e
theorem keep (x : ExtX X F g g') {b : Addr} {o : Obj} (n1 : b ∉ g.α) (n2 : b ∉ X) (n3 : b ≠ tabA) (n4 : b ∉ F) (e : g.s.heap.get? b = some o) : g'.s.heap.get? b = some o := by
 cases x.at_ b o e with
 | mk o' e' k => rw [← (k n1 n2 n3).1 n4]; exact e'
theorem keepF (x : ExtX X F g g') {b : Addr} {o : Obj} (n1 : b ∉ g.α) (n2 : b ∉ X) (n3 : b ≠ tabA) (e : g.s.heap.get? b = some o) : ∃ sl, g'.s.heap.get? b = some { o with slots := sl } := by
 cases x.at_ b o e with
 | mk o' e' k => exact (k n1 n2 n3).2.elim fun sl z => ⟨sl, z ▸ e'⟩
theorem comp {X₀ F₀ : List Addr} (x : ExtX X F g g') (y : ExtX X' F g' g'') (h : ∀ a o, a ∉ g.α → a ∉ X₀ → g.s.heap.get? a = some o → a ∉ X ∧ a ∉ X') (hF : ∀ a o, g.s.heap.get? a = some o → a ∉ F₀ → a ∉ F) : ExtX X₀ F₀ g g'' where
 pre := x.pre.trans y.pre
 new a ha := (y.new a ha).elim (x.new a) fun q => .inr (x.fresh q)
 at_ b o e := by
  cases x.at_ b o e with
  | mk o1 e1 k1 => cases y.at_ b o1 e1 with
   | mk o2 e2 k2 =>
    refine ⟨o2, e2, fun n1 n2 n3 => ?_⟩
    have z := h b o n1 n2 e
    have q1 := k1 n1 z.1 n3
    have q2 := k2 (x.notin n1 e) z.2 n3
    exact ⟨fun n4 => (q2.1 (hF b o e n4)).trans (q1.1 (hF b o e n4)), q2.2.elim fun sl2 e4 => q1.2.elim fun sl1 e3 => ⟨sl2, by rw [e4, e3]⟩⟩
 gens := y.gens.trans x.gens
 os := y.os.trans x.os
theorem trans (x : ExtX X F g g') (y : ExtX X F g' g'') : ExtX X F g g'' := x.comp y (fun _ _ _ h _ => ⟨h, h⟩) fun _ _ _ h => h
end ExtX
theorem Ext.trans {C : Cx} {g g' g'' : Sg} (x : Ext C g g') (y : Ext C g' g'') : Ext C g g'' := ExtX.trans x y
theorem Ext.refl {C : Cx} {g : Sg} : Ext C g g := ExtX.same
section
variable {C : Cx} {fr fr' : Fm} {α α' : List Addr} {h h' : Hp} {s s' : Heap}
theorem Frs.mem (F : Frs C s) {b : Addr} (hb : b ∈ frs C.A) : C.B.get? b = none ∧ ∃ o, s.get? b = some o ∧ ∀ vs, o.data ≠ .fields vs := by
 cases F with
 | mk e f => unfold frs at hb; rw [e] at hb; exact f.mem hb
theorem Frs.chg (F : Frs C s) (k : ∀ b ∈ frs C.A, ∀ o, s.get? b = some o → (∀ vs, o.data ≠ .fields vs) → ∃ o', s'.get? b = some o' ∧ ∀ vs, o'.data ≠ .fields vs) : Frs C s' := by
 cases F with
 | @mk l e f =>
  refine ⟨e, ?_⟩
  have k : ∀ b ∈ l.filterMap (·.frame), ∀ o, s.get? b = some o → (∀ vs, o.data ≠ .fields vs) → ∃ o', s'.get? b = some o' ∧ ∀ vs, o'.data ≠ .fields vs := fun b hb => k b (by unfold frs; rw [e]; exact hb)
  clear e
  induction l with
  | nil => trivial
  | cons en l ih => exact f.2.1.elim fun L z => z.elim fun o z => (k L (by rw [List.filterMap_cons, z.1]; exact .head _) o z.2.2.1 z.2.2.2).elim fun o' q => ⟨f.1, ⟨L, o', z.1, z.2.1, q⟩, ih f.2.2 fun b hb => k b (by rw [List.filterMap_cons, z.1]; exact .tail _ hb)⟩
theorem NsR.at {L : Addr} (n : NsR α fr L s) : ∃ o, s.get? L = some o ∧ ∀ vs, o.data ≠ .fields vs := by
 cases n with
 | mk n _ => exact n.elim fun o z => z.elim fun es z => z.elim fun ep z => ⟨o, z.1, fun vs e => by rw [z.2.1] at e; cases e⟩
theorem InvH.hasAt (I : InvH C fr α h s) {k : Nat} {a : Addr} (ha : α[k]? = some a) : ∃ o, h[k]? = some o ∧ ObAt α s C.w o a := by
 have hk : k < h.length := I.sim.len ▸ (List.getElem?_eq_some_iff.mp ha).1
 exact ⟨h[k], List.getElem?_eq_getElem hk, I.sim.obj k _ a (List.getElem?_eq_getElem hk) ha⟩
theorem InvH.liveM (I : InvH C fr α h s) {a : Addr} (ha : a ∈ α) : ∃ o, s.get? a = some o := (List.mem_iff_getElem?.mp ha).elim fun k e => (I.hasAt e).elim fun _ z => by
 cases z.2 with
 | mk c e _ => exact ⟨c, e⟩
theorem InvH.ne (I : InvH C fr α h s) {i j : Nat} {a b : Addr} (hi : α[i]? = some a) (hj : α[j]? = some b) (n : i ≠ j) : a ≠ b := fun e =>
 n ((List.getElem?_inj (List.getElem?_eq_some_iff.mp hi).1 I.sim.nd).mp (hi.trans (e ▸ hj.symm)))
structure Free (C : Cx) (α : List Addr) (a : Addr) : Prop where
 α : a ∉ α
 L : a ≠ C.L
 F : a ∉ frs C.A
 T : a ≠ tabA
 B : C.B.get? a = none
theorem InvH.free (I : InvH C fr α h s) {a : Addr} (e : s.get? a = none) : Free C α a where
 α hm := (I.liveM hm).elim fun o q => some_ne q e
 L z := I.ns.at.elim fun o q => some_ne (z ▸ q.1) e
 F hm := (I.FF.mem hm).2.elim fun o q => some_ne q.1 e
 T z := by cases I.sim.tab with | mk e' _ _ => exact some_ne (z ▸ e') e
 B := by
  cases z : C.B.get? a with
  | none => rfl
  | some o => exact some_ne (I.sim.base a o z) e
theorem InvH.chg (I : InvH C fr α h s) (T : Addr → Prop) (kp : ∀ b o, ¬T b → s.get? b = some o → s'.get? b = some o) (nB : ∀ b, T b → C.B.get? b = none) (nc : ∀ c, CodeOk α s c lq → CodeOk α s' c lq) (tb : TabOk α s') (hl : h'.length = h.length) (wf : WF h')
  (ob : ∀ (j : Nat) (x : AObj) (b : Addr), h'[j]? = some x → α[j]? = some b → ObAt α s' C.w x b ∧ ((∃ xs, x = .ro xs) ∨ C.B.get? b = none) ∨ (h[j]? = some x ∧ ¬T b)) (hN : NsR α fr' C.L s') (hc : ∀ x k, fr'.cel x = some k → One α[k]? fun a => C.env.cells.lookup (nm x) = some a)
  (fF : ∀ b ∈ frs C.A, T b → ∃ o', s'.get? b = some o' ∧ ∀ vs, o'.data ≠ .fields vs) : InvH C fr' α h' s' where
 sim := {
  len := I.sim.len.trans hl.symm
  nd := I.sim.nd
  obj := fun j x b hx hb => (ob j x b hx hb).elim (·.1) fun z => by
   cases I.sim.obj j x b z.1 hb with
   | mk c e r => exact ⟨c, kp b c z.2 e, r.mono (List.prefix_refl _) nc⟩
  base := fun b o e => kp b o (fun t => some_ne e (nB b t)) (I.sim.base b o e)
  own := fun j x b hx hb => (ob j x b hx hb).elim (·.2) fun z => I.sim.own j x b z.1 hb
  tab := tb
  tabN := I.sim.tabN
  wf := wf }
 ns := hN
 cel := hc
 locN := I.locN
 locB := I.locB
 locT := I.locT
 FN := I.FN
 FF := I.FF.chg fun b hb o e n => Classical.byCases (fF b hb) fun t => ⟨o, kp b o t e, n⟩
 hd := I.hd
theorem CodeOk.keep {c : Addr} {q : Str} (k : ∀ o vs t, s.get? c = some o → o.data = .fields vs → vs[1]? = some (.str q t) → c ∉ α → c ≠ tabA → s'.get? c = some o) (x : CodeOk α s c q) : CodeOk α s' c q := by
 cases x with
 | mk e d v n nt => exact ⟨k _ _ _ e d v n nt, d, v, n, nt⟩
theorem TabOk.keep (x : TabOk α s) (k : ∀ o, s.get? tabA = some o → s'.get? tabA = some o) (nc : ∀ c, CodeOk α s c lq → CodeOk α' s' c lq) : TabOk α' s' := by
 cases x with
 | mk e t c => exact ⟨k _ e, t, fun pos cv z => (c pos cv z).elim fun c q => ⟨c, q.1, nc c q.2⟩⟩
theorem NsR.keep {L : Addr} (n : NsR α fr L s) (p : α <+: α') (k : ∀ o, s.get? L = some o → (∃ es ep, o.data = .dict es ep) → ∃ o', s'.get? L = some o' ∧ o'.data = o.data) : NsR α' fr L s' := by
 cases n with
 | mk n r => exact n.elim fun o z => z.elim fun es z => z.elim fun ep z => (k o z.1 ⟨es, ep, z.2.1⟩).elim fun o' q => ⟨⟨o', es, ep, q.1, q.2.trans z.2.1, z.2.2⟩, fun x v e => one_mono (r x v e) fun _ => VR.mono p⟩
theorem InvH.adopt (I : InvH C fr α h s) {a : Addr} {o : AObj} {c : Obj} (f : Free C α a) (hc : s.get? a = some c) (nc : isCode c = false) (r : ObjR (α ++ [a]) s C.w o c) (wf : WF (h ++ [o])) : InvH C fr (α ++ [a]) (h ++ [o]) s := by
 have p : α <+: α ++ [a] := List.prefix_append _ _
 have nm' : ∀ b, b ∉ α → b ≠ a → b ∉ α ++ [a] := fun b h1 h2 hm => (List.mem_append.mp hm).elim h1 fun z => h2 (List.mem_singleton.mp z)
 have kc : ∀ c, CodeOk α s c lq → CodeOk (α ++ [a]) s c lq := fun b x => by
  cases x with
  | mk e d v n nt => exact ⟨e, d, v, nm' b n fun z => by subst z; cases hc.symm.trans e; exact Bool.noConfusion (nc.symm.trans (isCode_of d v)), nt⟩
 have key : ∀ {β : Type} {l : List β} {y : β} {i : Nat} {z : β} {P : Prop}, (l ++ [y])[i]? = some z → (l[i]? = some z → i < l.length → P) → (i = l.length → z = y → P) → P := fun {β l y i z P} e k1 k2 => by
  by_cases hi : i < l.length
  ·rw [List.getElem?_append_left hi] at e; exact k1 e hi
  ·rw [List.getElem?_append_right (Nat.le_of_not_lt hi)] at e
   cases hj : i - l.length with
   | zero => rw [hj] at e; cases e; exact k2 (Nat.le_antisymm (Nat.sub_eq_zero_iff_le.mp hj) (Nat.le_of_not_lt hi)) rfl
   | succ j => rw [hj] at e; cases e
 have el := I.sim.len
 exact {
  sim := {
   len := by rw [List.length_append, List.length_append, el]; rfl
   nd := List.nodup_append.mpr ⟨I.sim.nd, List.nodup_cons.mpr ⟨List.not_mem_nil, .nil⟩, fun x hx y hy e => f.α (List.mem_singleton.mp hy ▸ e ▸ hx)⟩
   obj := fun k x b hx hb => key hx (fun e1 l1 => key hb (fun e2 _ => by
    cases I.sim.obj k x b e1 e2 with
    | mk c' e r' => exact ⟨c', e, r'.mono p kc⟩) fun e2 _ => absurd (e2.trans el) (Nat.ne_of_lt l1)) fun e1 z => key hb (fun _ l2 => absurd (e1.trans el.symm) (Nat.ne_of_lt l2)) fun _ z' => by subst z z'; exact ⟨c, hc, r⟩
   base := I.sim.base
   own := fun k x b hx hb => key hx (fun e1 l1 => key hb (fun e2 _ => I.sim.own k x b e1 e2) fun _ z => .inr (z ▸ f.B)) fun e1 _ => key hb (fun _ l2 => absurd (e1.trans el.symm) (Nat.ne_of_lt l2)) fun _ z => .inr (z ▸ f.B)
   tab := I.sim.tab.keep (fun _ e => e) kc
   tabN := nm' _ I.sim.tabN f.T.symm
   wf := wf }
  ns := I.ns.keep p fun o e _ => ⟨o, e, rfl⟩
  cel := fun x k e => one_pre p (I.cel x k e)
  locN := nm' _ I.locN f.L.symm
  locB := I.locB
  locT := I.locT
  FN := fun b hb => ⟨nm' b (I.FN b hb).1 fun z => f.F (z ▸ hb), (I.FN b hb).2⟩
  FF := I.FF
  hd := I.hd }
end
end Mine
namespace Mine
open PySem PySem.W PySem.Calls PyProof.Rows
section
variable {h : Hp} {k d : Nat} {o o' : AObj}
theorem wk_at (e : h[k]? = some o) : (h.map wk)[k]? = some (wk o) := by rw [List.getElem?_map, e]; rfl
theorem of_wk {x : Nat × Nat} (e : (h.map wk)[k]? = some x) : ∃ o, h[k]? = some o ∧ wk o = x := by rw [List.getElem?_map] at e; exact Option.map_eq_some_iff.mp e
theorem WF.hidAt (w : WF h) {a b c : Option AV} (e : h[k]? = some (.node d a b c)) : h[d]? = some .hid := (of_wk (w.hid k d (wk_at e))).elim fun o z => by induction o <;> first | exact z.1 | exact (Nat.ne_of_beq_eq_false rfl (congrArg Prod.fst z.2)).elim
theorem WF.nsAt (w : WF h) (e : h[k]? = some (.inst d)) : ∃ es, h[d]? = some (.ns es) := (of_wk (w.ins k d (wk_at e))).elim fun o z => by induction o <;> first | exact ⟨_, z.1⟩ | exact (Nat.ne_of_beq_eq_false rfl (congrArg Prod.fst z.2)).elim
theorem WF.szAt (w : WF h) (e : h[k]? = some o) : SzOk o := w.sz o (List.mem_of_getElem? e)
theorem WF.set (w : WF h) (ho : h[k]? = some o) (e : wk o' = wk o) (hz : SzOk o') : WF (h.set k o') := by
 have m : (h.set k o').map wk = h.map wk := by
  rw [List.map_set, e]
  exact List.ext_getElem? fun i => by
   rw [List.getElem?_set]
   split
   ·next z => subst z; rw [wk_at ho, if_pos (by rw [List.length_map]; exact (List.getElem?_eq_some_iff.mp ho).1)]
   ·rfl
 exact ⟨m ▸ w.hid, m ▸ w.ins, fun x hx => (List.mem_or_eq_of_mem_set hx).elim (w.sz x) fun z => z ▸ hz⟩
theorem map_snoc : (h ++ [o]).map wk = h.map wk ++ [wk o] := List.map_append
theorem get_snoc {β : Type} {l : List β} {y z : β} {i : Nat} (e : l[i]? = some z) : (l ++ [y])[i]? = some z := by
 rw [List.getElem?_append_left (List.getElem?_eq_some_iff.mp e).1]; exact e
theorem snoc_get {β : Type} {l : List β} {y z : β} {i : Nat} (e : (l ++ [y])[i]? = some z) : l[i]? = some z ∨ z = y := by
 by_cases hi : i < l.length
 ·rw [List.getElem?_append_left hi] at e; exact .inl e
 ·rw [List.getElem?_append_right (Nat.le_of_not_lt hi)] at e
  cases hj : i - l.length with
  | zero => rw [hj] at e; cases e; exact .inr rfl
  | succ j => rw [hj] at e; cases e
theorem snoc_at {β : Type} {l : List β} {y : β} {n : Nat} (e : l.length = n) : (l ++ [y])[n]? = some y := by subst e; exact List.getElem?_concat_length
theorem WF.snoc (w : WF h) (hn : ∀ d, wk o = (1, d) → (h.map wk)[d]? = some (3, 0)) (hi : ∀ d, wk o = (2, d) → (h.map wk)[d]? = some (4, 0)) (hz : SzOk o) : WF (h ++ [o]) :=
 ⟨fun k d e => by rw [map_snoc] at e ⊢; exact get_snoc ((snoc_get e).elim (w.hid k d) fun z => hn d z.symm), fun k d e => by rw [map_snoc] at e ⊢; exact get_snoc ((snoc_get e).elim (w.ins k d) fun z => hi d z.symm),
  fun x hx => (List.mem_append.mp hx).elim (w.sz x) fun z => List.mem_singleton.mp z ▸ hz⟩
noncomputable def NewOk (o : AObj) : Prop := SzOk o ∧ (wk o).2 = 0 ∧ (wk o).1 ≠ 1 ∧ (wk o).1 ≠ 2
theorem WF.new (w : WF h) (n : NewOk o) : WF (h ++ [o]) := w.snoc (fun d e => absurd (congrArg Prod.fst e) n.2.2.1) (fun d e => absurd (congrArg Prod.fst e) n.2.2.2) n.1
end
theorem newList {xs : List AV} (l : xs.length ≤ 200000) : NewOk (.list xs) := ⟨l, rfl, nofun, nofun⟩
theorem newTup {xs : List AV} (l : xs.length ≤ 200000) : NewOk (.tuple xs) := ⟨l, rfl, nofun, nofun⟩
theorem noCode_of {c : Obj} {d : Data} (e : c.data = d) (h : isCode { c with data := d } = false) : isCode c = false := by subst e; exact h
theorem ObjR.nocode {α : List Addr} {s : Heap} {w : World} {o : AObj} {c : Obj} (r : ObjR α s w o c) (n : o ≠ .junk) : isCode c = false := by
 induction o with
 | list xs => exact OList.casesOn r fun _ => rfl
 | ro xs => exact ORo.casesOn r fun _ d _ => noCode_of d rfl
 | tuple xs => exact OTup.casesOn r fun _ => rfl
 | dict es ver => exact ODict.casesOn r fun _ _ _ _ => rfl
 | set xs => exact OSet.casesOn r fun e _ => e.2.elim fun _ z => z.elim fun _ z => z.elim fun _ z => noCode_of z.1 rfl
 | hid => exact Eq.subst (motive := fun c => isCode c = false) r rfl
 | node d a b c => exact ONode.casesOn r fun _ _ => rfl
 | inst d => exact OInst.casesOn r fun _ => rfl
 | ns es => exact ONs.casesOn r fun _ _ _ _ => rfl
 | cell v => exact OCell.casesOn r fun d _ => noCode_of d rfl
 | clos k cs => exact OClos.casesOn r fun _ _ _ _ => rfl
 | iter l i => exact OIter.casesOn r fun _ _ _ d => noCode_of d rfl
 | meth it => exact OMeth.casesOn r fun _ _ d => noCode_of d rfl
 | junk => exact absurd rfl n
section
variable {C : Cx} {fr fr' : Fm} {α α' : List Addr} {h h' : Hp} {s s' : Heap}
theorem InvH.nsAt (I : InvH C fr α h s) : ∃ o, s.get? C.L = some o ∧ ∀ vs, o.data ≠ .fields vs := I.ns.at
theorem InvH.mid (I : InvH C fr α h s) (S : Addr → Prop) (G : List Addr) (hS : ∀ b, S b → b ∈ α ∧ C.B.get? b = none) (hG : ∀ b ∈ G, b ∈ frs C.A ∧ ∃ o', s'.get? b = some o' ∧ ∀ vs, o'.data ≠ .fields vs)
  (kp : ∀ b o, ¬S b → b ≠ C.L → b ∉ G → s.get? b = some o → s'.get? b = some o) (hl : h'.length = h.length) (wf : WF h')
  (ob : ∀ (j : Nat) (x : AObj) (b : Addr), h'[j]? = some x → α[j]? = some b → ObAt α s' C.w x b ∧ ((∃ xs, x = .ro xs) ∨ C.B.get? b = none) ∨ (h[j]? = some x ∧ ¬S b)) (hN : NsR α fr' C.L s') (hc : ∀ x k, fr'.cel x = some k → One α[k]? fun a => C.env.cells.lookup (nm x) = some a) : InvH C fr' α h' s' := by
 have nc : ∀ c, CodeOk α s c lq → CodeOk α s' c lq := fun c x => x.keep fun o vs t e d _ n _ => kp c o (fun z => n (hS c z).1) (fun z => by subst z; exact I.nsAt.elim fun o' q => absurd d (Option.some.inj (q.1.symm.trans e) ▸ q.2 vs)) (fun z => (I.FF.mem (hG c z).1).2.elim fun o' q => absurd d (Option.some.inj (q.1.symm.trans e) ▸ q.2 vs)) e
 refine I.chg (fun b => S b ∨ b = C.L ∨ b ∈ G) (fun b o t => kp b o (fun z => t (.inl z)) (fun z => t (.inr (.inl z))) fun z => t (.inr (.inr z))) (fun b t => t.elim (fun z => (hS b z).2) fun t => t.elim (fun z => z ▸ I.locB) fun z => (I.FF.mem (hG b z).1).1) nc
  (I.sim.tab.keep (fun o => kp _ o (fun z => I.sim.tabN (hS _ z).1) I.locT.symm fun z => (I.FN _ (hG _ z).1).2 rfl) nc) hl wf (fun j x b hx hb => (ob j x b hx hb).imp_right fun z => ⟨z.1, fun t => t.elim z.2 fun t => t.elim (fun q => I.locN (q ▸ List.mem_of_getElem? hb)) fun q => (I.FN b (hG b q).1).1 (List.mem_of_getElem? hb)⟩) hN hc
  fun b hb t => t.elim (fun z => absurd (hS b z).1 (I.FN b hb).1) fun t => t.elim (fun z => by subst z; exact hN.at) fun z => (hG b z).2
theorem InvH.own (I : InvH C fr α h s) (kp : ∀ b o, b ≠ C.L → s.get? b = some o → s'.get? b = some o) (hN : NsR α fr' C.L s') (hc : fr'.cel = fr.cel := by rfl) : InvH C fr' α h s' :=
 I.mid (fun _ => False) [] (fun _ => False.elim) (fun _ h => nomatch h) (fun b o _ l _ => kp b o l) rfl I.sim.wf (fun _ _ _ hx _ => .inr ⟨hx, id⟩) hN (hc ▸ I.cel)
theorem InvH.turnF (I : InvH C fr α h s) {k : Nat} {o o' : AObj} {a : Addr} {c : Obj} (G : List Addr) (hG : ∀ b ∈ G, b ∈ frs C.A ∧ ∃ o', s'.get? b = some o' ∧ ∀ vs, o'.data ≠ .fields vs) (ho : h[k]? = some o) (ha : α[k]? = some a) (hro : ∀ xs, o ≠ .ro xs) (ew : wk o' = wk o) (hz : SzOk o')
  (kp : ∀ b x, b ≠ a → b ≠ C.L → b ∉ G → s.get? b = some x → s'.get? b = some x) (hN : NsR α fr' C.L s') (hc : s'.get? a = some c) (hr : ObjR α s' C.w o' c) (hf : fr'.cel = fr.cel := by rfl) : InvH C fr' α (h.set k o') s' := by
 have hB : C.B.get? a = none := (I.sim.own k o a ho ha).resolve_left fun z => z.elim hro
 refine I.mid (· = a) G (fun b e => e ▸ ⟨List.mem_of_getElem? ha, hB⟩) hG kp List.length_set (I.sim.wf.set ho ew hz) (fun j x b hx hb => ?_) hN (hf ▸ I.cel)
 by_cases q : k = j
 ·subst q
  rw [List.getElem?_set_self (List.getElem?_eq_some_iff.mp ho).1] at hx
  cases hx; cases ha.symm.trans hb
  exact .inl ⟨⟨c, hc, hr⟩, .inr hB⟩
 ·rw [List.getElem?_set_ne q] at hx
  exact .inr ⟨hx, I.ne hb ha fun z => q z.symm⟩
theorem InvH.turn (I : InvH C fr α h s) {k : Nat} {o o' : AObj} {a : Addr} {c : Obj} (ho : h[k]? = some o) (ha : α[k]? = some a) (hro : ∀ xs, o ≠ .ro xs) (ew : wk o' = wk o) (hz : SzOk o')
  (kp : ∀ b x, b ≠ a → b ≠ C.L → s.get? b = some x → s'.get? b = some x) (hN : NsR α fr' C.L s') (hc : s'.get? a = some c) (hr : ObjR α s' C.w o' c) (hf : fr'.cel = fr.cel := by rfl) : InvH C fr' α (h.set k o') s' :=
 I.turnF [] (fun _ h => nomatch h) ho ha hro ew hz (fun b x n l _ => kp b x n l) hN hc hr hf
theorem InvH.off (I : InvH C fr α h s) {fp : List Addr} (of : ∀ a ∈ fp, Free C α a) (n : ∀ a ∈ fp, ∀ o, s.get? a = some o → isCode o = false) (kp : ∀ b o, b ∉ fp → s.get? b = some o → s'.get? b = some o) : InvH C fr α h s' := by
 have nc : ∀ c, CodeOk α s c lq → CodeOk α s' c lq := fun c x => x.keep fun o vs t e d v _ _ => kp c o (fun z => Bool.noConfusion ((n c z o e).symm.trans (isCode_of d v))) e
 exact I.chg (· ∈ fp) kp (fun b z => (of b z).B) nc (I.sim.tab.keep (fun o => kp _ o fun z => (of _ z).T rfl) nc) rfl I.sim.wf (fun _ _ b hx hb => .inr ⟨hx, fun z => (of b z).α (List.mem_of_getElem? hb)⟩)
  (I.ns.keep (List.prefix_refl _) fun o e _ => ⟨o, kp _ o (fun z => (of _ z).L rfl) e, rfl⟩) I.cel fun b hb z => absurd hb (of b z).F
theorem InvH.keeps (I : InvH C fr α h s) (kp : ∀ b o, s.get? b = some o → s'.get? b = some o) : InvH C fr α h s' :=
 I.off (fp := []) (fun _ h => nomatch h) (fun _ h => nomatch h) fun b o _ => kp b o
end
section
variable (C : Cx) (fr : Fm) (g : Sg)
noncomputable def KE (Q : AV → Hp → Prop) (K : Value → Shared → Prop) : Prop := ∀ v x g', Q x g'.h → VR g'.α x v → Inv C fr g' → Ext C g g' → K v g'.s
noncomputable def KL (Q : List AV → Hp → Prop) (K : List Value → Shared → Prop) : Prop := ∀ vs xs g', Q xs g'.h → LR (VR g'.α) xs vs → Inv C fr g' → Ext C g g' → K vs g'.s
noncomputable def KH (Q : Hp → Prop) (K : Shared → Prop) : Prop := ∀ g', Q g'.h → Inv C fr g' → Ext C g g' → K g'.s
noncomputable def KF (Q : Fm → Hp → Prop) (K : Shared → Prop) : Prop := ∀ fr' g', Q fr' g'.h → Inv C fr' g' → Ext C g g' → K g'.s
noncomputable def FlowR (α : List Addr) : AFlow → Flow → Prop
 | .next => Eq .next
 | .brk => Eq .brk
 | .cont => Eq .cont
 | .ret x => fun f => ∃ v, f = .ret v ∧ VR α x v
noncomputable def KX (Q : AFlow → Fm → Hp → Prop) (K : Flow → Shared → Prop) : Prop := ∀ f fl fr' g', Q fl fr' g'.h → FlowR g'.α fl f → Inv C fr' g' → Ext C g g' → K f g'.s
end
section
variable {C : Cx} {fr fr' : Fm} {g g₁ : Sg} {Q : AV → Hp → Prop} {K : Value → Shared → Prop}
theorem KE.up (k : KE C fr g Q K) (X : Ext C g g₁) : KE C fr g₁ Q K := fun v x g' q hv I X' => k v x g' q hv I (X.trans X')
theorem KH.up {Q : Hp → Prop} {K : Shared → Prop} (k : KH C fr g Q K) (X : Ext C g g₁) : KH C fr g₁ Q K := fun g' q I X' => k g' q I (X.trans X')
theorem KF.up {Q : Fm → Hp → Prop} {K : Shared → Prop} (k : KF C g Q K) (X : Ext C g g₁) : KF C g₁ Q K := fun fr g' q I X' => k fr g' q I (X.trans X')
theorem KX.up {Q : AFlow → Fm → Hp → Prop} {K : Flow → Shared → Prop} (k : KX C g Q K) (X : Ext C g g₁) : KX C g₁ Q K := fun f fl fr g' q hf I X' => k f fl fr g' q hf I (X.trans X')
theorem Inv.to (I : Inv C fr g) {s' : Shared} (e : s'.heap = g.s.heap) : Inv C fr ⟨g.α, g.h, s'⟩ := by unfold Inv; rw [e]; exact I
theorem KE.same (k : KE C fr g Q K) {x : AV} {v : Value} {s' : Shared} (I : Inv C fr g) (q : Q x g.h) (hv : VR g.α x v) (e : s'.heap = g.s.heap := by rfl) (eg : s'.gens = g.s.gens := by rfl) (eo : s'.os = g.s.os := by rfl) : K v s' :=
 k v x ⟨g.α, g.h, s'⟩ q hv (I.to e) (ExtX.same e eg eo)
theorem KE.grown (k : KE C fr g Q K) {x : AV} {v : Value} {s' : Shared} (I : Inv C fr g) (q : Q x g.h) (hv : VR g.α x v) (kp : ∀ b o, g.s.heap.get? b = some o → s'.heap.get? b = some o) (eg : s'.gens = g.s.gens := by rfl) (eo : s'.os = g.s.os := by rfl) : K v s' :=
 k v x ⟨g.α, g.h, s'⟩ q hv (InvH.keeps I kp) (ExtX.keeps kp eg eo)
theorem Ext.own {α' : List Addr} {h' : Hp} {s' : Shared} (I : Inv C fr g) (p : g.α <+: α') (n : ∀ a ∈ α', a ∈ g.α ∨ g.s.heap.get? a = none) (kp : ∀ b o, b ≠ C.L → g.s.heap.get? b = some o → s'.heap.get? b = some o) (hN : NsR g.α fr' C.L s'.heap) (eg : s'.gens = g.s.gens := by rfl) (eo : s'.os = g.s.os := by rfl) : Ext C g ⟨α', h', s'⟩ :=
 ExtX.of p n (fun b o _ n2 _ => kp b o fun z => n2 (z ▸ .head _)) (fun b o e => Classical.byCases (fun z : b = C.L => z ▸ hN.at.elim fun o q => ⟨o, q.1⟩) fun z => ⟨o, kp b o z e⟩) eg eo
theorem KE.new (k : KE C fr g Q K) {o : AObj} {c : Obj} {a : Addr} {s' : Shared} (I : Inv C fr g) (kp : ∀ b o, b ≠ C.L → g.s.heap.get? b = some o → s'.heap.get? b = some o) (hN : NsR g.α fr C.L s'.heap) (ha : g.s.heap.get? a = none) (hc : s'.heap.get? a = some c) (q : Q (.ref g.h.length) (g.h ++ [o]))
  (hr : ObjR (g.α ++ [a]) s'.heap C.w o c) (n : NewOk o) (nj : o ≠ .junk := by nofun) (eg : s'.gens = g.s.gens := by rfl) (eo : s'.os = g.s.os := by rfl) : K (.ref a) s' :=
 k _ (.ref g.h.length) ⟨g.α ++ [a], g.h ++ [o], s'⟩ q (.mk (snoc_at I.sim.len)) (InvH.adopt (InvH.own I kp hN) (InvH.free I ha) hc (hr.nocode nj) hr (I.sim.wf.new n))
  (Ext.own I (List.prefix_append _ _) (fun b hb => (List.mem_append.mp hb).imp_right fun z => by rw [List.mem_singleton.mp z]; exact ha) kp hN eg eo)
theorem KE.newK (k : KE C fr g Q K) {o : AObj} {c : Obj} {a : Addr} {s' : Shared} (I : Inv C fr g) (kp : ∀ b o, g.s.heap.get? b = some o → s'.heap.get? b = some o) (ha : g.s.heap.get? a = none) (hc : s'.heap.get? a = some c) (q : Q (.ref g.h.length) (g.h ++ [o]))
  (hr : ObjR (g.α ++ [a]) s'.heap C.w o c) (n : NewOk o) (nj : o ≠ .junk := by nofun) (eg : s'.gens = g.s.gens := by rfl) (eo : s'.os = g.s.os := by rfl) : K (.ref a) s' :=
 k.new I (fun b o _ => kp b o) (I.ns.keep (List.prefix_refl _) fun o e _ => ⟨o, kp _ o e, rfl⟩) ha hc q hr n nj eg eo
theorem KE.push (k : KE C fr g Q K) {o : AObj} {c : Obj} {tk : Nat} (I : Inv C fr g) (q : Q (.ref g.h.length) (g.h ++ [o])) (hr : ObjR (g.α ++ [g.s.heap.objs.size]) (g.s.heap.push c) C.w o c) (n : NewOk o) (hf : c.isFreed = false := by rfl) (nj : o ≠ .junk := by nofun) :
  K (.ref g.s.heap.objs.size) { g.s with heap := g.s.heap.push c, toks := tk } :=
 k.newK I (fun b o e => Heap.get?_push_of_some _ e) (fresh_size _) (Heap.get?_push_size _ hf) q hr n nj
theorem Inv.turned (I : Inv C fr g) {k : Nat} {o o' : AObj} {a : Addr} {c : Obj} {s' : Shared} {P : Prop} (ho : g.h[k]? = some o) (ha : g.α[k]? = some a) (hro : ∀ xs, o ≠ .ro xs) (ew : wk o' = wk o) (hz : SzOk o')
  (kp : ∀ b x, b ≠ a → b ≠ C.L → g.s.heap.get? b = some x → s'.heap.get? b = some x) (hN : NsR g.α fr C.L s'.heap) (hc : s'.heap.get? a = some c) (hr : ObjR g.α s'.heap C.w o' c)
  (K : Inv C fr ⟨g.α, g.h.set k o', s'⟩ → Ext C g ⟨g.α, g.h.set k o', s'⟩ → P) (eg : s'.gens = g.s.gens := by rfl) (eo : s'.os = g.s.os := by rfl) : P :=
 K (InvH.turn I ho ha hro ew hz kp hN hc hr) (ExtX.of (List.prefix_refl _) (fun _ h => .inl h) (fun b x n1 n2 _ => kp b x (fun z => n1 (z ▸ List.mem_of_getElem? ha)) fun z => n2 (z ▸ .head _))
  (fun b x e => Classical.byCases (fun z : b = a => ⟨c, z ▸ hc⟩) fun n1 => Classical.byCases (fun z : b = C.L => z ▸ hN.at.elim fun o q => ⟨o, q.1⟩) fun n2 => ⟨x, kp b x n1 n2 e⟩) eg eo)
theorem Inv.turnS (I : Inv C fr g) {k : Nat} {o o' : AObj} {a : Addr} {c : Obj} {s' : Shared} {P : Prop} (ho : g.h[k]? = some o) (ha : g.α[k]? = some a) (hro : ∀ xs, o ≠ .ro xs) (ew : wk o' = wk o) (hz : SzOk o')
  (hs : Heap.SameBut a g.s.heap s'.heap) (hc : s'.heap.get? a = some c) (hr : ObjR g.α s'.heap C.w o' c)
  (K : Inv C fr ⟨g.α, g.h.set k o', s'⟩ → Ext C g ⟨g.α, g.h.set k o', s'⟩ → P) (eg : s'.gens = g.s.gens := by rfl) (eo : s'.os = g.s.os := by rfl) : P :=
 I.turned ho ha hro ew hz (fun b x n _ e => (hs.2 b n).trans e) (I.ns.keep (List.prefix_refl _) fun o e _ => ⟨o, (hs.2 _ fun z => I.locN (by rw [z]; exact List.mem_of_getElem? ha)).trans e, rfl⟩) hc hr K eg eo
end
end Mine
namespace Mine
open PySem PySem.W PySem.Calls PyProof.Rows
noncomputable def gval : GV → Value → Prop
 | .fn k => Eq (.ref (fad k))
 | .cls b => Eq (.ref (clsA b))
 | .int i => VInt i
 | .bi s => Eq (.builtin s)
 | .ty s => Eq (.type s)
structure WdH (B : Heap) (w : World) (mg mb : Str → Option Value) : Prop where
 g : B.Ns mainGlobals mg
 b : B.Ns builtinsNs mb
 gl : ∀ id x, glob id = some x → ∃ v, gval x v ∧ (mg id = some v ∨ (mg id = none ∧ mb id = some v))
 nolimit : B.NoLimit
 k : (kf w.params).In B
 sysM : ∃ o, B.get? sysModules = some o
 bat : B.BuiltinsAt mg tabA
 tabB : B.get? tabA = none
structure EnvH (B : Heap) (env : Env) (sc : Scope) : Prop where
 scope : env.scope = sc
 kind : sc.kind = .function
 glob : env.globals = mainGlobals
 blt : env.builtins = builtinsNs
 cells : ∀ n, CF sc n → ∃ a, env.cells.lookup n = some a
 lam : lamSc sc = true → env.qual ++ "<lambda>" = lq ∧ ∃ c, env.code = .ref c ∧ CodeHd B c tabA
structure AOk (n : Nat) (A : Around) : Prop where
 handled : A.handled = none
 depth : A.depth + n < 900
 units : A.units + 20 * n < 9000
noncomputable def SC (B : Heap) (w : World) (mg mb : Str → Option Value) (n : Nat) : Prop := ∀ {A : Around} {env : Env} {fr : Fm} {g : Sg} {Q : AV → Hp → Prop} {f : AV} {as : List AV} {kw : List (Nat × AV)} {fv : Value} {vs : List Value} {ks : List (Str × Value)} {R : Result → Shared → Prop},
 AOk n A → env.scope.kind = .function → (go n).cl f as kw g.h Q → Inv ⟨B, w, mg, mb, A, env⟩ fr g → VR g.α f fv → LR (VR g.α) as vs → LR (KR g.α) kw ks → KE ⟨B, w, mg, mb, A, env⟩ fr g Q (fun v s => R (.ok (.ret v)) s) → codeAny (model pw w) A (.call fv ⟨vs, ks⟩) R g.s
structure Gd (n : Nat) (C : Cx) (sc : Scope) : Prop where
 W : WdH C.B C.w C.mg C.mb
 E : EnvH C.B C.env sc
 A : AOk n C.A
 S : ∀ m, m ≤ n → SC C.B C.w C.mg C.mb m
theorem AOk.mono {n m : Nat} {A : Around} (h : AOk n A) (l : m ≤ n) : AOk m A := ⟨h.handled, Nat.lt_of_le_of_lt (Nat.add_le_add_left l _) h.depth, Nat.lt_of_le_of_lt (Nat.add_le_add_left (Nat.mul_le_mul_left _ l) _) h.units⟩
theorem Gd.dn {n : Nat} {C : Cx} {sc : Scope} (G : Gd (n + 1) C sc) : Gd n C sc := ⟨G.W, G.E, G.A.mono (Nat.le_succ n), fun m l => G.S m (Nat.le_succ_of_le l)⟩
noncomputable def NoStar (e : Expr) : Prop := ∀ rest env, starEach (e :: rest) env = (false, eval e env) :: starEach rest env
section
variable (sc : Scope) (e : Expr) (ie : IExpr)
noncomputable def OkE : Prop := ∀ {n : Nat} {C : Cx} {fr : Fm} {g : Sg} {Q : AV → Hp → Prop} {K : Value → Shared → Prop}, Gd n C sc → (go n).ev ie fr g.h Q → Inv C fr g → KE C fr g Q K → C.wp (eval e C.env) K g.s
noncomputable def KT (C : Cx) (fr : Fm) (g : Sg) (Q : Bool → Hp → Prop) (K : Bool → Shared → Prop) : Prop := ∀ b g', Q b g'.h → Inv C fr g' → Ext C g g' → K b g'.s
noncomputable def OkT : Prop := ∀ {n : Nat} {C : Cx} {fr : Fm} {g : Sg} {Q : Bool → Hp → Prop} {K : Bool → Shared → Prop}, Gd n C sc → tst (go n) ie fr g.h Q → Inv C fr g → KT C fr g Q K → C.wp (isTrue e C.env (eval e C.env)) K g.s
structure Ok : Prop where
 ns : NoStar e
 ev : OkE sc e ie
 ts : OkT sc e ie
end
section
variable {sc : Scope} {e : Expr} {ie : IExpr}
theorem KT.up {C : Cx} {fr : Fm} {g g₁ : Sg} {Q : Bool → Hp → Prop} {K : Bool → Shared → Prop} (k : KT C fr g Q K) (X : Ext C g g₁) : KT C fr g₁ Q K := fun b g' q I X' => k b g' q I (X.trans X')
theorem okE (H : ∀ {n : Nat} {C : Cx} {fr : Fm} {g : Sg} {Q : AV → Hp → Prop} {K : Value → Shared → Prop}, Gd n C sc → evStep (go n) ie fr g.h Q → Inv C fr g → KE C fr g Q K → C.wp (eval e C.env) K g.s) : OkE sc e ie := fun {n C fr g Q K} G q I k => by
 induction n with
 | zero => exact q.elim
 | succ n => exact MonE.casesOn q fun R p kR => H G.dn p I fun v x g' q' => k v x g' (kR _ _ q')
theorem truthy_snd {C : Cx} {fr : Fm} {g : Sg} {x : AV} {u : Value} {b : Bool} {K : Bool → Shared → Prop} (e : truthy x g.h = some b) (hu : VR g.α x u) (I : Inv C fr g) (k : ∀ s' : Shared, s'.heap = g.s.heap → s'.gens = g.s.gens → s'.os = g.s.os → K b s') : C.wp (PySem.truthy u) K g.s := by
 induction x with
 | none => obtain rfl := Option.some.inj e; exact Eq.subst (motive := fun u => C.wp (PySem.truthy u) K g.s) hu (truthy_none (k g.s rfl rfl rfl))
 | bool c => obtain rfl := Option.some.inj e; exact Eq.subst (motive := fun u => C.wp (PySem.truthy u) K g.s) hu (wpAny_truthy_bool (k g.s rfl rfl rfl))
 | int i => obtain rfl := Option.some.inj e; exact VInt.casesOn hu (PyProof.Rows.truthy_int (k g.s rfl rfl rfl))
 | ref j =>
  refine VRef.casesOn hu fun ha => (Option.bind_eq_some_iff.mp e).elim fun o e => ?_
  induction o with
  | list xs =>
   refine ObAt.casesOn (I.sim.obj _ _ _ e.1 ha) fun c hc r => OList.casesOn (motive := fun c _ => g.s.heap.get? _ = some c → _) r (fun {vs n} hr hc => ?_) hc
   have hl : g.s.heap.PlainList _ vs := ⟨n, hc⟩
   have hz : xs.length ≤ 200000 := I.sim.wf.szAt e.1
   have hlen : xs.length = vs.size := hr.length
   refine wpAny_truthy_list hl.isList (Int.lt_of_le_of_lt (Int.ofNat_le.mpr (hlen ▸ hz)) (by decide)) ?_
   have eb : (!vs.isEmpty) = b := Eq.trans (congrArg Bool.not (by rw [hr.isEmpty]; simp)) (Option.some.inj e.2)
   rw [eb]
   exact k _ rfl rfl rfl
  | _ => exact noS e.2
 | fn k => exact noS e
 | cls b => exact noS e
theorem KT.same {C : Cx} {fr : Fm} {g : Sg} {Q : Bool → Hp → Prop} {K : Bool → Shared → Prop} (k : KT C fr g Q K) {b : Bool} {s' : Shared} (I : Inv C fr g) (q : Q b g.h) (e : s'.heap = g.s.heap) (eg : s'.gens = g.s.gens) (eo : s'.os = g.s.os) : K b s' :=
 k b ⟨g.α, g.h, s'⟩ q (I.to e) (ExtX.same e eg eo)
theorem okX (ns : NoStar e) (hi : ∀ env, isTrue e env (eval e env) = (do let v ← eval e env; standAt e.pos; holding [v] (PySem.truthy v)))
  (H : ∀ {n : Nat} {C : Cx} {fr : Fm} {g : Sg} {Q : AV → Hp → Prop} {K : Value → Shared → Prop}, Gd n C sc → evStep (go n) ie fr g.h Q → Inv C fr g → KE C fr g Q K → C.wp (eval e C.env) K g.s) : Ok sc e ie :=
 ⟨ns, okE H, fun G q I k => isTrue_plain (okE H G q I fun v x g' q' hv I' X' => One.casesOn q' fun b e q' => truthy_snd e hv I' fun s' e1 e2 e3 => (k.up X').same I' q' e1 e2 e3) (hi _)⟩
end
end Mine
namespace Mine
open PySem PySem.W PySem.Calls PyProof.Rows PyProof.V PySem.Spec PySem.SeqAt
section
variable {n : Nat} {C : Cx} {sc : Scope} {fr : Fm} {g : Sg} {Q : AV → Hp → Prop} {K : Value → Shared → Prop} {P : Prop}
theorem obAt (I : Inv C fr g) {k : Nat} {o : AObj} {a : Addr} (e : g.h[k]? = some o) (ha : g.α[k]? = some a) (K : ∀ c, g.s.heap.get? a = some c → ObjR g.α g.s.heap C.w o c → P) : P := ObAt.casesOn (I.sim.obj _ _ _ e ha) K
theorem listAt (I : Inv C fr g) {k : Nat} {xs : List AV} {a : Addr} (e : g.h[k]? = some (.list xs)) (ha : g.α[k]? = some a)
  (K : ∀ vs m, g.s.heap.get? a = some ⟨.type "list", none, .seq vs m, #[]⟩ → LR (VR g.α) xs vs.toList → xs.length = vs.size → xs.length ≤ 200000 → P) : P :=
 obAt I e ha fun c hc r => OList.casesOn (motive := fun c _ => g.s.heap.get? a = some c → P) r (fun hr hc => K _ _ hc hr hr.length (I.sim.wf.szAt e)) hc
theorem tupAt (I : Inv C fr g) {k : Nat} {xs : List AV} {a : Addr} (e : g.h[k]? = some (.tuple xs)) (ha : g.α[k]? = some a)
  (K : ∀ vs m, g.s.heap.get? a = some ⟨.type "tuple", none, .seq vs m, #[]⟩ → LR (VR g.α) xs vs.toList → xs.length = vs.size → xs.length ≤ 200000 → P) : P :=
 obAt I e ha fun c hc r => OTup.casesOn (motive := fun c _ => g.s.heap.get? a = some c → P) r (fun hr hc => K _ _ hc hr hr.length (I.sim.wf.szAt e)) hc
theorem isList_of {h : Heap} {a : Addr} {vs : Array Value} {m : Nat} (e : h.get? a = some ⟨.type "list", none, .seq vs m, #[]⟩) : h.IsList a vs := ⟨_, e, rfl, m, rfl⟩
theorem isTup_of {h : Heap} {a : Addr} {vs : Array Value} {m : Nat} (e : h.get? a = some ⟨.type "tuple", none, .seq vs m, #[]⟩) : h.IsTuple a vs := ⟨_, e, rfl, m, rfl⟩
theorem roAt (I : Inv C fr g) {k : Nat} {xs : List AV} {a : Addr} (e : g.h[k]? = some (.ro xs)) (ha : g.α[k]? = some a) (K : ∀ vs, g.s.heap.IsList a vs → LR (VR g.α) xs vs.toList → xs.length = vs.size → xs.length ≤ 200000 → P) : P :=
 obAt I e ha fun c hc r => ORo.casesOn r fun {vs m} c d hr => K vs ⟨_, hc, c, m, d⟩ hr hr.length (I.sim.wf.szAt e)
@[elab_as_elim] theorem lstAt (I : Inv C fr g) {v : AV} {xs : List AV} {u : Value} (e : Lst g.h v xs) {P : Value → Prop} (hv : VR g.α v u) (K : ∀ a vs, g.s.heap.IsList a vs → LR (VR g.α) xs vs.toList → xs.length = vs.size → xs.length ≤ 200000 → P (.ref a)) : P u :=
 Lst.casesOn (motive := fun v xs _ => VR g.α v u → (∀ a vs, g.s.heap.IsList a vs → LR (VR g.α) xs vs.toList → xs.length = vs.size → xs.length ≤ 200000 → P (.ref a)) → P u) e
  (fun e hv K => VRef.casesOn hv fun ha => listAt I e ha fun vs m h => K _ vs (isList_of h)) (fun e hv K => VRef.casesOn hv fun ha => roAt I e ha (K _)) hv K
@[elab_as_elim] theorem seqAt (I : Inv C fr g) {v : AV} {xs : List AV} {u : Value} (e : Sq g.h v xs) {P : Value → Prop} (hv : VR g.α v u) (K : ∀ a vs, g.s.heap.IsList a vs ∨ g.s.heap.IsTuple a vs → LR (VR g.α) xs vs.toList → xs.length = vs.size → xs.length ≤ 200000 → P (.ref a)) : P u :=
 Sq.casesOn (motive := fun v xs _ => VR g.α v u → (∀ a vs, g.s.heap.IsList a vs ∨ g.s.heap.IsTuple a vs → LR (VR g.α) xs vs.toList → xs.length = vs.size → xs.length ≤ 200000 → P (.ref a)) → P u) e
  (fun e hv K => VRef.casesOn hv fun ha => listAt I e ha fun vs m h => K _ vs (.inl (isList_of h))) (fun e hv K => VRef.casesOn hv fun ha => roAt I e ha fun vs h => K _ vs (.inl h)) (fun e hv K => VRef.casesOn hv fun ha => tupAt I e ha fun vs m h => K _ vs (.inr (isTup_of h))) hv K
theorem dictAt (I : Inv C fr g) {k : Nat} {es : List (Int × AV)} {ver : Nat} {a : Addr} (e : g.h[k]? = some (.dict es ver)) (ha : g.α[k]? = some a) (K : ∀ kvs, g.s.heap.DictAt (kd C.w) a kvs ver → LR (ER g.α) es kvs → (kvs.map (·.1)).Nodup → P) : P :=
 obAt I e ha fun c hc r => ODict.casesOn (motive := fun c _ => g.s.heap.get? a = some c → P) r (fun {ens kvs} h1 h2 h3 hr hc => K kvs ⟨_, ens, hc, ⟨rfl, rfl, rfl⟩, rfl, h1, h2, h3⟩ hr h3) hc
theorem setAt (I : Inv C fr g) {k : Nat} {xs : List Int} {a : Addr} (e : g.h[k]? = some (.set xs)) (ha : g.α[k]? = some a) : g.s.heap.SetOf (kd C.w) a (fun k => decide (k ∈ xs)) xs.length :=
 obAt I e ha fun c hc r => OSet.casesOn r fun e l => e.2.elim fun ens z => z.elim fun ep z => z.elim fun tt z => ⟨c, ens, ep, tt, hc, e.1, z.1, z.2.1, z.2.2.1, z.2.2.2.1 ▸ Nat.lt_of_lt_of_le l (by decide), z.2.2.2.2, z.2.2.2.1⟩
theorem cellAt (I : Inv C fr g) {k : Nat} {v : Option AV} {a : Addr} (e : g.h[k]? = some (.cell v)) (ha : g.α[k]? = some a) (K : ∀ u, g.s.heap.IsCell a u → OptR (VR g.α) v u → P) : P := obAt I e ha fun c hc r => OCell.casesOn r fun d r => K _ ⟨c, hc, d⟩ r
theorem nsAt (I : Inv C fr g) (K : ∀ m, g.s.heap.Ns C.L m → (∀ x v, fr.loc x = some v → One (m (nm x)) (VR g.α v)) → P) : P := NsR.casesOn I.ns fun n r => K _ n r
theorem lk (E : EnvH C.B C.env sc) (x : Str) : C.env.kindOf x = sc.names.lookup x := by unfold Env.kindOf; rw [E.scope]
theorem kindE (E : EnvH C.B C.env sc) : C.env.scope.kind = .function := E.scope ▸ E.kind
theorem load_loc {id : Str} {x : Nat} {Q' : AV → Prop} (E : EnvH C.B C.env sc) (hc : IsLoc sc id x) (q : evVar fr g.h Q' (.loc x)) (I : Inv C fr g) (k : ∀ v u, Q' v → VR g.α v u → K u g.s) : C.wp (loadName C.env id) K g.s := by
 refine IsLoc.casesOn hc fun e hl _ => ?_
 subst e
 exact One.casesOn q fun v hv p => nsAt I fun m hn hm => One.casesOn (hm x _ hv) fun u hu hr => wpAny_loadName_local (kindE E) ((lk E _).trans hl) hn hu (k _ u p hr)
theorem load_cel {id : Str} {x : Nat} {Q' : AV → Prop} (E : EnvH C.B C.env sc) (hc : IsCel sc id x) (q : evVar fr g.h Q' (.cel x)) (I : Inv C fr g) (k : ∀ v u, Q' v → VR g.α v u → K u g.s) : C.wp (loadName C.env id) K g.s := by
 refine IsCel.casesOn hc fun e hl _ hcd => ?_
 subst e
 refine EvC.casesOn q fun hj hv p => One.casesOn (I.cel x _ hj) fun a ha hlk => cellAt I hv ha fun u hu hr => One.casesOn hr.sm fun u e hr => ?_
 subst e
 exact hl.elim (fun hl => wpAny_loadName_cell (kindE E) ((lk E _).trans hl) hlk hu (k _ u p hr)) fun hl => wpAny_loadName_free (kindE E) ((lk E _).trans hl) hlk hu (k _ u p hr) hcd
theorem load_glo {id : Str} {x : GV} (W : WdH C.B C.w C.mg C.mb) (E : EnvH C.B C.env sc) (hc : IsGlo sc id x) (I : Inv C fr g) (k : ∀ u, gval x u → K u g.s) : C.wp (loadName C.env id) K g.s := by
 refine IsGlo.casesOn hc fun hl _ hg => (W.gl id x hg).elim fun v z => ?_
 show wpAny C.M C.A (loadName C.env id) K FF g.s
 rw [loadName_read (kindE E) ((lk E _).trans hl)]
 have Ng : g.s.heap.Ns C.env.globals C.mg := E.glob ▸ W.g.keeps I.sim.base
 have Nb : g.s.heap.Ns C.env.builtins C.mb := E.blt ▸ W.b.keeps I.sim.base
 unfold loadGlobal
 refine wpAny_bind (wpAny_nsGet Ng (z.2.elim (fun hm => ?_) fun hm => ?_))
 ·rw [hm]; exact wpAny_pure (k v z.1)
 ·rw [hm.1]
  refine wpAny_bind (wpAny_nsGet Nb ?_)
  rw [hm.2]; exact wpAny_pure (k v z.1)
theorem sE_loc {id : Str} {pos : Pos} {x : Nat} (hc : IsLoc sc id x) : Ok sc (.Name id pos) (.loc x) := okX (fun _ _ => rfl) (fun _ => rfl) fun G q I k => wpAny_Name (load_loc G.E hc q I fun v u p hr => k.same I p hr) hc.3
theorem sE_cel {id : Str} {pos : Pos} {x : Nat} (hc : IsCel sc id x) : Ok sc (.Name id pos) (.cel x) := okX (fun _ _ => rfl) (fun _ => rfl) fun G q I k => wpAny_Name (load_cel G.E hc q I fun v u p hr => k.same I p hr) hc.3
theorem sE_fn {id : Str} {pos : Pos} {j : Nat} (hc : IsGlo sc id (.fn j)) : Ok sc (.Name id pos) (.fn j) := okX (fun _ _ => rfl) (fun _ => rfl) fun G q I k => wpAny_Name (load_glo G.W G.E hc I fun u hu => k.same I (x := .fn j) q hu) hc.2
theorem sE_cls {id : Str} {pos : Pos} {b : Bool} (hc : IsGlo sc id (.cls b)) : Ok sc (.Name id pos) (.cls b) := okX (fun _ _ => rfl) (fun _ => rfl) fun G q I k => wpAny_Name (load_glo G.W G.E hc I fun u hu => k.same I (x := .cls b) q hu) hc.2
theorem sE_gint {id : Str} {pos : Pos} {x : Nat} {i : Int} (hc : IsGlo sc id (.int i)) : Ok sc (.Name id pos) (.gint x i) := okX (fun _ _ => rfl) (fun _ => rfl) fun G q I k => wpAny_Name (load_glo G.W G.E hc I fun u hu => k.same I (x := .int i) q hu) hc.2
theorem sE_none {m : Nat} {pos : Pos} : Ok sc (.Constant .none m pos) .none := okX (fun _ _ => rfl) (fun _ => rfl) fun G q I k => wpAny_Constant_none (k.same I q rfl)
theorem sE_bool {b : Bool} {m : Nat} {pos : Pos} : Ok sc (.Constant (.bool b) m pos) (.bool b) := okX (fun _ _ => rfl) (fun _ => rfl) fun G q I k => wpAny_Constant_bool (k.same I q rfl)
theorem sE_int {i : Int} {m : Nat} {pos : Pos} : Ok sc (.Constant (.int i) m pos) (.int i) := okX (fun _ _ => rfl) (fun _ => rfl) fun G q I k => wpAny_Constant_int (k.same I q VInt.mk)
end
end Mine
namespace Mine
open PySem PySem.W PySem.Calls PyProof.Rows PyProof.V PySem.Spec PySem.SeqAt
open AutoSeq1 (wpAny_loadPart')
open MeetsSeq
noncomputable def liveAll (h : Heap) (L : Addr) : List (Addr × Obj) := (List.range h.objs.size).filterMap fun a => if a = L then none else (h.get? a).map fun o => (a, o)
theorem mem_liveAll {h : Heap} {L a : Addr} {o : Obj} (e : h.get? a = some o) (n : a ≠ L) : (a, o) ∈ liveAll h L :=
 List.mem_filterMap.mpr ⟨a, List.mem_range.mpr (Heap.lt_size e), by rw [if_neg n, e]; rfl⟩
theorem of_mem_liveAll {h : Heap} {L : Addr} {p : Addr × Obj} (m : p ∈ liveAll h L) : h.get? p.1 = some p.2 ∧ p.1 ≠ L := by
 obtain ⟨a, _, e⟩ := List.mem_filterMap.mp m
 by_cases hn : a = L
 ·rw [if_pos hn] at e; exact noS e
 ·rw [if_neg hn] at e
  obtain ⟨o, ho, rfl⟩ := Option.map_eq_some_iff.mp e
  exact ⟨ho, hn⟩
noncomputable def noHeap : Heap := { objs := #[] }
theorem noHeap_get (a : Addr) : noHeap.get? a = none := Heap.get?_none_of_le (Nat.zero_le _)
theorem fr_all {h : Heap} {L : Addr} {m : Str → Option Value} (n : h.Ns L m) : Fr noHeap L h m := ⟨n, fun b o e => some_ne e (noHeap_get b), Nat.zero_le _⟩
theorem news_all (h : Heap) (L : Addr) : News noHeap L h (liveAll h L) := fun p hp => ⟨(of_mem_liveAll hp).1, (of_mem_liveAll hp).2, noHeap_get _⟩
theorem kept_all {h h' : Heap} {L : Addr} {news : List (Addr × Obj)} (N : News noHeap L h' news) (k : ∀ p ∈ liveAll h L, p ∈ news) : ∀ b o, b ≠ L → h.get? b = some o → h'.get? b = some o :=
 fun b o n e => (N _ (k _ (mem_liveAll e n))).1
section
variable {n : Nat} {C : Cx} {sc : Scope} {fr : Fm} {g : Sg} {Q : AV → Hp → Prop} {K : Value → Shared → Prop}
theorem KE.led (k : KE C fr g Q K) {o : AObj} {c : Obj} {a : Addr} {hp : Heap} {tk : Nat} {m : Str → Option Value} {news : List (Addr × Obj)} (I : Inv C fr g) (hm : ∀ x v, fr.loc x = some v → One (m (nm x)) (VR g.α v)) (F : Fr noHeap C.L hp m) (N : News noHeap C.L hp ((a, c) :: news))
  (kn : ∀ p ∈ liveAll g.s.heap C.L, p ∈ news) (ha : g.s.heap.get? a = none) (q : Q (.ref g.h.length) (g.h ++ [o])) (hr : ObjR (g.α ++ [a]) hp C.w o c) (z : NewOk o) (nj : o ≠ .junk := by nofun) : K (.ref a) { g.s with heap := hp, toks := tk } :=
 k.new I (kept_all N fun p hp => .tail _ (kn p hp)) ⟨F.ns, hm⟩ ha (N _ (.head _)).1 q hr z nj
noncomputable def opOf : BOp → Operator
 | .add => .Add | .sub => .Sub | .mul => .Mult | .fdiv => .FloorDiv | .mod => .Mod
theorem vint {i : Int} {t : Tok} : VInt i (.int i t) := .mk
theorem sz_le {a : Nat} (h : a ≤ 200000) : a ≤ sizeLine := by rw [sizeLine_eq]; exact Nat.le_trans h (by decide)
theorem le2 {a : Nat} (h : a ≤ 100000) : a ≤ 200000 := Nat.le_trans h (by decide)
theorem intBits_small {x : Int} (h0 : 0 ≤ x) (h1 : x < 1000) : ¬ Builtin.Int.intBits x > shortFactorBits := by
 unfold Builtin.Int.intBits shortFactorBits
 split
 ·lia
 ·have hx : x.natAbs < 1024 := by lia
  have := Nat.log2_lt (n := x.natAbs) (k := 10) (by intro q; simp_all) |>.mpr (by lia)
  lia
theorem rep_lists (w : Value) : ∀ (k : Nat) (acc : Array Value), (List.foldl (fun x1 x2 : Array Value => x1 ++ x2) acc (List.replicate k #[w])).toList = acc.toList ++ List.replicate k w
 | 0, acc => by simp
 | k + 1, acc => by rw [List.replicate_succ, List.foldl_cons, rep_lists w k, List.replicate_succ]; simp
theorem binop_snd {op : BOp} {x y : AV} {u v : Value} (q : binop g.h Q op x y) (hu : VR g.α x u) (hv : VR g.α y v) (I : Inv C fr g) (k : KE C fr g Q K) : C.wp (binaryOp (opOf op) u v) K g.s := by
 induction q with
 | add q => exact VInt.casesOn hu (VInt.casesOn hv (add_int (k.same I q vint)))
 | sub q => exact VInt.casesOn hu (VInt.casesOn hv (sub_int (k.same I q vint)))
 | fdiv l q => exact VInt.casesOn hu (VInt.casesOn hv (floordiv_int (by have := l.1; lia) (k.same I q vint) (.inl (PyProof.noPylong_small (by have := l.2; have := l.1; lia)))))
 | mod l q => exact VInt.casesOn hu (VInt.casesOn hv (mod_int' (by have := l.1; lia) (k.same I q vint)))
 | cat e e' l q =>
  refine lstAt I e hu fun a vs h1 r1 l1 z1 => lstAt I e' hv fun b us h2 r2 l2 z2 => nsAt I fun m hn hm => ?_
  refine add_arrays (fr_all hn) (news_all _ _) h1 h2 (fun h' F' N' => ?_) (sz_le (le2 (l1 ▸ l2 ▸ l)))
  exact k.led I hm F' N' (fun _ x => x) (fresh_size _) q (.mk (by simpa using VR.monoL (List.prefix_append _ _) (r1.append r2))) (newList (List.length_append ▸ Nat.le_trans l (by decide)))
 | mul l q => exact VInt.casesOn hu (VInt.casesOn hv (PyProof.Rows.mul_int (k.same I q vint) fun z => by
   simp only [Bool.and_eq_true, decide_eq_true_eq] at z
   exact intBits_small l.1 l.2 z.1.1))
 | rep e l l' q =>
  refine VRef.casesOn hu fun ha => VInt.casesOn hv (listAt I e ha fun vs m hl r1 l1 _ => nsAt I fun m hn hm => ?_)
  obtain ⟨vs⟩ := vs
  refine r1.c1 (C := fun l => g.s.heap.get? _ = some (⟨.type "list", none, .seq ⟨l⟩ _, #[]⟩ : Obj) → _) (fun w hw hl => ?_) hl
  refine mul_list (fr_all hn) (news_all _ _) hl (by lia) (by lia) (by simp; lia) (fun h' F' N' => ?_)
  refine k.led I hm F' N' (fun _ x => x) (fresh_size _) q (.mk ?_) (newList (List.length_replicate ▸ Int.toNat_le.mpr (Int.le_trans l' (by decide))))
  rw [rep_lists]
  exact LR.replicate _ (hw.mono (List.prefix_append _ _))
end
end Mine
namespace Mine
open PySem PySem.W PySem.Calls PyProof.Rows PyProof.V PySem.Spec PySem.SeqAt
open AutoSeq1 (wpAny_loadPart')
open MeetsSeq
theorem lt_loop1 (l b : Addr) (x y : Value) (n n2 : Nat) : Meets (Builtin.«list.__eq__.loop» ⟨[.ref l, .ref b, rawInt 1, rawInt 0], []⟩)
   (fun _ R s => s.heap.get? l = some { cls := .type "list", dict := none, data := .seq #[x] n, slots := #[] } ∧ s.heap.get? b = some { cls := .type "list", dict := none, data := .seq #[y] n2, slots := #[] } ∧
    R (.ok (.ret (.bool false))) s) := by
 intro prog w A R s h
 obtain ⟨hp, g, d, tk, os⟩ := s; obtain ⟨hl, hb, h⟩ := h
 wp_walk using wpAny_loadPart' hl, wpAny_loadPart' hb
 exact h
theorem lt_loop0 (l b : Addr) (x y : Value) (e c : Bool) (he : EqGives x y e) (hlt : ∀ (prog : Program) (w : World) (A : Around) (E : Value → Shared → Prop) (s : Shared) (Q : Value → Shared → Prop), Q (.bool c) s → wpAny (model prog w) A (richCompare .Lt x y) Q E s) (n n2 : Nat) :
  Meets (Builtin.«list.__eq__.loop» ⟨[.ref l, .ref b, rawInt 0, rawInt 0], []⟩)
   (fun _ R s => s.heap.get? l = some { cls := .type "list", dict := none, data := .seq #[x] n, slots := #[] } ∧ s.heap.get? b = some { cls := .type "list", dict := none, data := .seq #[y] n2, slots := #[] } ∧
    R (.ok (.ret (.bool (!e && c)))) s) := by
 intro prog w A R s h
 obtain ⟨hp, g, d, tk, os⟩ := s; obtain ⟨hl, hb, h⟩ := h
 have hi1 : (#[x] : Array Value)[Int.toNat 0]? = some x := rfl
 have hi2 : (#[y] : Array Value)[Int.toNat 0]? = some y := rfl
 unfold Builtin.«list.__eq__.loop»
 refine wpAny_bind (wpAny_listItems hl rfl ?_)
 refine wpAny_bind (wpAny_listItems hb rfl ?_)
 try dsimp only
 rw [hi1, hi2]
 refine wpAny_bind (he prog w _ _ _ _ ?_)
 cases e with
 | true => exact wpAny_pure ⟨plainId_quiet MeetsSeq3.plain_eq_loop _, codeAny_builtin MeetsSeq3.entry_eq_loop (by
   rw [Around.under_plainId MeetsSeq3.plain_eq_loop _]
   exact lt_loop1 l b x y n n2 prog w A R _ ⟨hl, hb, h⟩)⟩
 | false =>
  refine wpAny_bind (wpAny_listItems hl rfl ?_)
  refine wpAny_bind (wpAny_listItems hb rfl ?_)
  try dsimp only
  rw [hi1, hi2]
  exact wpAny_bind (hlt prog w _ _ _ _ (wpAny_pure h))
theorem list_lt1 (l b : Addr) (i j : Int) (t u : Tok) (n n2 : Nat) : Meets (Builtin.«list.__lt__» ⟨[.ref l, .ref b], []⟩)
   (fun _ R s => s.heap.get? l = some { cls := .type "list", dict := none, data := .seq #[.int i t] n, slots := #[] } ∧ s.heap.get? b = some { cls := .type "list", dict := none, data := .seq #[.int j u] n2, slots := #[] } ∧
    R (.ok (.ret (.bool (decide (i < j))))) s) := by
 intro prog w A R s h
 obtain ⟨hp, g, d, tk, os⟩ := s; obtain ⟨hl, hb, h⟩ := h
 have f3 := AutoSeq1.sub_list_list
 wp_walk using wpAny_loadPart' hl, wpAny_loadPart' hb
 exact ⟨plainId_quiet MeetsSeq3.plain_eq_loop _, codeAny_builtin MeetsSeq3.entry_eq_loop (by
  rw [Around.under_plainId MeetsSeq3.plain_eq_loop _]
  refine lt_loop0 l b (.int i t) (.int j u) (i == j) (decide (i < j)) (fun prog w A E s Q q => wpAny_eqBool_int q) (fun prog w A E s Q q => PyProof.Rows.lt_int (Q := Q) (E := E) q) n n2 prog w A R _ ⟨hl, hb, ?_⟩
  by_cases e : i = j
  ·subst e; simpa using h
  ·rw [show (i == j) = false from by simpa using e]; simpa using h)⟩
section
variable {n : Nat} {C : Cx} {sc : Scope} {fr : Fm} {g : Sg} {Q : AV → Hp → Prop} {K : Value → Shared → Prop} {P : Prop}
theorem cLine_room (Ao : AOk n C.A) : C.A.units + 65 < cLine := Nat.lt_of_lt_of_le (Nat.add_lt_add_right (Nat.lt_of_le_of_lt (Nat.le_add_right _ _) Ao.units) 65) (by decide : 9000 + 65 ≤ 9900)
theorem ints_are {α : List Addr} {xs : List AV} {vs : List Value} (r : LR (VR α) xs vs) : ∀ {ns : List Int}, ints? xs = some ns → IntsAre vs ns := by
 induction r with
 | nil => intro ns e; exact Option.some.inj e ▸ .nil
 | @cons x y xs ys h t ih =>
  intro ns e
  induction x with
  | int j => exact (Option.map_eq_some_iff.mp e).elim fun ms e => e.2 ▸ VInt.casesOn h (.cons _ _ (ih e.1))
  | _ => exact noS e
@[elab_as_elim] theorem lintsAt (I : Inv C fr g) {v : AV} {ns : List Int} {u : Value} (e : LI g.h v ns) {P : Value → Prop} (hv : VR g.α v u) (K : ∀ a vs, g.s.heap.IsList a vs.toArray → IntsAre vs ns → P (.ref a)) : P u :=
 LI.casesOn e fun xs e ei => lstAt I e hv fun a vs h r _ _ => K a vs.toList (by simpa using h) (ints_are r ei)
theorem oneAt (I : Inv C fr g) {k : Nat} {i : Int} {a : Addr} (e : g.h[k]? = some (.list [.int i])) (ha : g.α[k]? = some a) (K : ∀ t m, g.s.heap.get? a = some { cls := .type "list", dict := none, data := .seq #[.int i t] m, slots := #[] } → P) : P :=
 listAt I e ha fun vs m hl r _ _ => by
  obtain ⟨vs⟩ := vs
  exact r.c1 (C := fun l => g.s.heap.get? a = some (⟨.type "list", none, .seq ⟨l⟩ m, #[]⟩ : Obj) → P) (fun w hw hl => VInt.casesOn (motive := fun w _ => g.s.heap.get? a = some (⟨.type "list", none, .seq #[w] m, #[]⟩ : Obj) → P) hw (fun {t} hl => K t m hl) hl) hl
theorem countIn_ints (i : Int) : ∀ xs : List Int, 0 ≤ Spec.countIn (PyData.int i) (xs.map PyData.int) ∧ (Spec.countIn (PyData.int i) (xs.map PyData.int) ≠ 0 ↔ i ∈ xs)
 | [] => by simp [Spec.countIn]
 | x :: xs => by
  have ih := countIn_ints i xs
  simp only [List.map_cons, Spec.countIn, List.mem_cons, Spec.same, ← ih.2]
  by_cases e : i = x
  ·subst e; simp; lia
  ·have e' : ¬x = i := fun z => e z.symm
   simp [e, e', ih.1]
theorem ER.keys {α : List Addr} {es : List (Int × AV)} {kvs : List (Int × Value)} (r : LR (ER α) es kvs) : es.map (·.1) = kvs.map (·.1) := by
 induction r with
 | nil => rfl
 | cons h _ ih => exact congr (congrArg List.cons h.1) ih
theorem ER.valueAt {α : List Addr} {i : Int} {es : List (Int × AV)} {kvs : List (Int × Value)} (r : LR (ER α) es kvs) : OptR (VR α) (dget es i) (PySem.valueAt kvs i) := by
 induction r with
 | nil => exact trivial
 | @cons p q es kvs h _ ih =>
  obtain ⟨p1, p2⟩ := p
  obtain ⟨q1, q2⟩ := q
  obtain ⟨rfl, hv⟩ := h
  unfold dget PySem.valueAt at *
  by_cases z : p1 = i
  ·subst z
   rw [List.lookup_cons, List.find?_cons]
   simp only [beq_self_eq_true, decide_true]
   exact hv
  ·rw [List.lookup_cons, show (i == p1) = false by simpa using fun w => z w.symm, List.find?_cons]
   simp only [z, decide_false]
   exact ih
theorem isSomeMem (i : Int) : ∀ kvs : List (Int × Value), (PySem.valueAt kvs i).isSome = decide (i ∈ kvs.map (·.1))
 | [] => rfl
 | p :: kvs => by
  have ih := isSomeMem i kvs
  unfold PySem.valueAt at *
  rw [Option.isSome_map, List.find?_cons] at *
  by_cases z : p.1 = i
  ·simp [z]
  ·have z' : i ≠ p.1 := fun w => z w.symm
   simp only [z, decide_false, ih, List.map_cons, List.mem_cons, z', false_or]
theorem sysNe (I : Inv C fr g) (W : WdH C.B C.w C.mg C.mb) {k : Nat} {o : AObj} {a : Addr} (e : g.h[k]? = some o) (hro : ∀ xs, o ≠ .ro xs) (ha : g.α[k]? = some a) : (a == sysModules) = false :=
 beq_eq_false_iff_ne.mpr fun q => W.sysM.elim fun o' ho => some_ne (q ▸ ho) ((I.sim.own k o a e ha).resolve_left fun z => z.elim hro)
noncomputable def copOf : COp → CmpOp
 | .lt => .Lt | .le => .LtE | .gt => .Gt | .ge => .GtE | .eq => .Eq | .ne => .NotEq | .is => .Is | .isn => .IsNot | .mem => .In | .nmem => .NotIn
theorem isN {α : List Addr} {x : AV} {u : Value} (h : VR α x u) : (u == Value.none) = isNoneA x := by
 induction x with
 | none => exact h ▸ rfl
 | bool b => exact h ▸ rfl
 | int i => exact VInt.casesOn h rfl
 | ref k => exact VRef.casesOn h fun _ => rfl
 | fn k => exact h ▸ rfl
 | cls b => exact h ▸ rfl
noncomputable def KB (g : Sg) (P : Bool → Prop) (K : Value → Shared → Prop) : Prop := ∀ b s', P b → s'.heap = g.s.heap → s'.gens = g.s.gens → s'.os = g.s.os → K (.bool b) s'
theorem cmp_snd {op : COp} {x y : AV} {u v : Value} {P : Bool → Prop} (G : Gd n C sc) (q : cmpop g.h P op x y) (hu : VR g.α x u) (hv : VR g.α y v) (I : Inv C fr g) (k : KB g P K) : C.wp (compareOp (copOf op) u v) K g.s := by
 have rm : ∀ {j : Nat}, j ≤ 65 → C.A.units + j < cLine := fun h => Nat.lt_of_le_of_lt (Nat.add_le_add_left h _) (cLine_room G.A)
 induction q with
 | lt q => exact VInt.casesOn hu (VInt.casesOn hv (PyProof.Rows.lt_int (k _ _ q rfl rfl rfl)))
 | le q => exact VInt.casesOn hu (VInt.casesOn hv (PyProof.Rows.le_int (k _ _ q rfl rfl rfl)))
 | ge q => exact VInt.casesOn hu (VInt.casesOn hv (PyProof.Rows.ge_int (k _ _ q rfl rfl rfl)))
 | eq q => exact VInt.casesOn hu (VInt.casesOn hv (PyProof.Rows.eq_int (k _ _ q rfl rfl rfl)))
 | ne q => exact VInt.casesOn hu (VInt.casesOn hv (PyProof.Rows.ne_int (k _ _ q rfl rfl rfl)))
 | lt1 e e' q =>
  refine VRef.casesOn hu fun {a} ha => VRef.casesOn hv fun {b} hb => oneAt I e ha fun t m1 h1 => oneAt I e' hb fun t' m2 h2 => ?_
  have T1 : g.s.TypeIs (.ref a) "list" := ⟨_, h1, rfl⟩
  have T2 : g.s.TypeIs (.ref b) "list" := ⟨_, h2, rfl⟩
  refine cmp_ofLt (wpAny_richCompare_same_room T1 T2 F.slot_list_lt ?_ (rm (j := 0) (by decide)))
  exact call_meets F.slot_list_lt T1 F.entry_list_lt (F.args_list_lt_2 _ _) (list_lt1 a b _ _ t t' m1 m2) ⟨h1, h2, (fun z => nomatch z), k _ _ q rfl rfl rfl⟩
 | eqL e e' q => exact lintsAt I e hu fun a vs h1 r1 => lintsAt I e' hv fun b us h2 r2 => eq_intsK h1 r1 h2 r2 (rm (by decide)) (k _ _ q rfl rfl rfl)
 | neL e e' q => exact lintsAt I e hu fun a vs h1 r1 => lintsAt I e' hv fun b us h2 r2 => ne_intsK h1 r1 h2 r2 (rm (by decide)) (k _ _ q rfl rfl rfl)
 | is q => exact hv ▸ is_none (k _ _ (by rw [isN hu]; exact q) rfl rfl rfl)
 | isn q => exact hv ▸ isNot_none (k _ _ (by show P (!(_ == Value.none)); rw [isN hu]; exact q) rfl rfl rfl)
 | memL e q =>
  refine VInt.casesOn hu (lintsAt I e hv fun a vs h1 r1 => in_list_dataH (reads_of_ints h1 r1) (Reads.int _ _) (shaped_ints _) rfl (cLine_room G.A) (fun y hy => ?_) ?_)
  ·obtain ⟨z, _, rfl⟩ := List.mem_map.mp hy; rfl
  ·exact k _ _ (by rw [decide_eq_decide.mpr (countIn_ints _ _).2]; exact q) rfl rfl rfl
 | nmem e q =>
  refine VInt.casesOn hu (lintsAt I e hv fun a vs h1 r1 => notIn_list_dataH (reads_of_ints h1 r1) (Reads.int _ _) (shaped_ints _) rfl (cLine_room G.A) (fun y hy => ?_) ?_)
  ·obtain ⟨z, _, rfl⟩ := List.mem_map.mp hy; rfl
  ·exact k _ _ (by rw [decide_eq_decide.mpr (countIn_ints _ _).2]; exact q) rfl rfl rfl
 | memS e q => exact VInt.casesOn hu (VRef.casesOn hv fun ha => wpAny_inSet_of (intKind_is _ _ _ _) rfl (setAt I e ha) (k _ _ q rfl rfl rfl))
 | memD e q => exact VInt.casesOn hu (VRef.casesOn hv fun ha => dictAt I e ha fun kvs hd hr _ => wpAny_in_of (intKind_is _ _ _ _) (sysNe I G.W e (by intro xs; nofun) ha) hd.dictOf.mapOf (k _ _ (by rw [isSomeMem, ← ER.keys hr]; exact q) rfl rfl rfl))
end
end Mine
namespace Mine
open PySem PySem.W PySem.Calls PyProof.Rows PyProof.V PySem.Spec PySem.SeqAt
section
variable {n : Nat} {C : Cx} {sc : Scope} {fr : Fm} {g : Sg} {Q : AV → Hp → Prop} {K : Value → Shared → Prop} {x y : Expr} {a b c : IExpr} {pos : Pos}
theorem sE_bin {op : BOp} (ca : Ok sc x a) (cb : Ok sc y b) : Ok sc (.BinOp x (opOf op) y pos) (.bin op a b) := okX (fun _ _ => rfl) (fun _ => rfl) fun G q I k =>
 wpAny_BinOp (ca.ev G q I fun u x g₁ q hu I X => cb.ev G q I fun v y g₂ q hv I Y => binop_snd q (hu.mono Y.pre) hv I (k.up (X.trans Y)))
theorem sE_neg (ca : Ok sc x a) : Ok sc (.UnaryOp .USub x pos) (.neg a) := okX (fun _ _ => rfl) (fun _ => rfl) fun G q I k =>
 wpAny_UnaryOp (ca.ev G q I fun u x g₁ q hu I X => IsI.casesOn q fun i e q => VInt.casesOn (Eq.subst (motive := fun x => VR g₁.α x u) e hu : VR g₁.α (.int i) u) (PyProof.Rows.neg_int ((k.up X).same I (x := .int (-i)) q vint)))
theorem isTrue_cmp {l rr : Expr} {op : CmpOp} {whole : Sem Value} {env : Env} {M : Model} {A : Around} {E : Value → Shared → Prop} {Q : Bool → Shared → Prop} {s : Shared} (hb : behindInMarks op rr = false)
  (hh : wpAny M A (eval l env) (fun a s₁ => wpAny M A (eval rr env) (fun b s₂ => wpAny M A (compareOp op a b) (fun c s₃ => wpAny M A (PySem.truthy c) Q E s₃) E s₂) E s₁) E s) :
  wpAny M A (isTrue (.Compare l [op] [rr] pos) env whole) Q E s := by
 show wpAny M A (do testChain pos (← eval l env) [op] (markedEach [op] [rr] (evalEach [rr] env))) Q E s
 have hm : markedEach [op] [rr] (evalEach [rr] env) = [eval rr env] := by rw [markedEach_of_false _ _ _ (by simpa [lastMarks] using hb)]; rfl
 rw [hm]
 exact wpAny_bind (wpAny_mono hh (fun a s₁ h₁ => test_last h₁) fun _ _ z => z)
theorem sE_cmp {op : COp} (hb : behindInMarks (copOf op) y = false) (ca : Ok sc x a) (cb : Ok sc y b) : Ok sc (.Compare x [copOf op] [y] pos) (.cmp op a b) := ⟨fun _ _ => rfl,
 okE (ie := (.cmp op a b)) fun G q I k => wpAny_Compare1 (ca.ev G q I fun u x g₁ q hu I X => cb.ev G q I fun v y g₂ q hv I Y => cmp_snd G q (hu.mono Y.pre) hv I fun b s' q e1 e2 e3 => (k.up (X.trans Y)).same I (x := .bool b) q rfl e1 e2 e3) hb,
 fun {n} {C fr g Q K} G q I k => by
  induction n with
  | zero => exact q.elim
  | succ n => exact MonE.casesOn q fun R q kR => isTrue_cmp hb (ca.ev G.dn q I fun u x g₁ q hu I X => cb.ev G.dn q I fun v y g₂ q hv I Y => cmp_snd G.dn q (hu.mono Y.pre) hv I fun b s' q e1 e2 e3 =>
    wpAny_truthy_bool (One.casesOn (kR _ _ q) fun b' e q => (k.up (X.trans Y)).same I (by cases e; exact q) e1 e2 e3))⟩
theorem okT (H : ∀ {n : Nat} {C : Cx} {fr : Fm} {g : Sg} {R : AV → Hp → Prop} {Q : Bool → Hp → Prop} {K : Bool → Shared → Prop}, Gd n C sc → evStep (go n) c fr g.h R → (∀ v h, R v h → One (truthy v h) fun b => Q b h) → Inv C fr g → KT C fr g Q K → C.wp (isTrue x C.env (eval x C.env)) K g.s) : OkT sc x c := fun {n C fr g Q K} G q I k => by
 induction n with
 | zero => exact q.elim
 | succ n => exact MonE.casesOn q fun R q kR => H G.dn q kR I k
theorem one_tru {v : AV} {h : Hp} {x : Bool} {Q : Bool → Hp → Prop} (z : One (truthy v h) fun b => Q b h) (e : truthy v h = some x) : Q x h := One.casesOn z fun y e' q => Option.some.inj (e'.symm.trans e) ▸ q
theorem one_inj {β : Type} {o : Option β} {x : β} {Q : β → Prop} (h : One o Q) (e : o = some x) : Q x := One.casesOn h fun y e' q => Option.some.inj (e'.symm.trans e) ▸ q
theorem sE_not (ca : Ok sc x a) : Ok sc (.UnaryOp .Not x pos) (.not a) := ⟨fun _ _ => rfl,
 okE (ie := (.not a)) fun G q I k => wpAny_UnaryOp (Ok.ev (e := x) ca G (Q := fun v h => One (truthy v h) fun b => _) q I fun u x g₁ q hu I X => One.casesOn q fun b e q => not_of (truthy_snd e hu I fun s' e1 e2 e3 => (k.up X).same I (x := .bool !b) q rfl e1 e2 e3)),
 okT (c := (.not a)) fun {n C fr g R Q K} G q hq I k => isTrue_not (ca.ts G (Q := fun b h => R (.bool (!b)) h) q I fun b g₁ q I X => k _ g₁ (one_tru (hq _ _ q) rfl) I X)⟩
theorem sE_and (ca : Ok sc x a) (cb : Ok sc y b) : Ok sc (.BoolOp .And [x, y] pos) (.and a b) := ⟨fun _ _ => rfl,
 okE (ie := (.and a b)) fun G q I k => wpAny_And2 (ca.ev G q I fun u x g₁ q hu I X => One.casesOn q fun t e q => truthy_snd e hu I fun s' e1 e2 e3 => by
  induction t with
  | true => exact cb.ev G (g := ⟨g₁.α, g₁.h, s'⟩) q (I.to e1) (k.up (X.trans (ExtX.same e1 e2 e3)))
  | false => exact (k.up X).same I q hu e1 e2 e3),
 okT (c := (.and a b)) fun {n C fr g R Q K} G q hq I k => isTrue_and (ca.ts G (Q := fun t h => if t = true then (go n).ev b fr h R else Q false h) (ev_mono q fun v h z => One.casesOn z fun t e q => ⟨t, e, by
   induction t with
   | true => exact q
   | false => exact one_tru (hq _ _ q) e⟩) I fun t g₁ q I X => by
  induction t with
  | true =>
   exact isTrue_and (cb.ts G (Q := Q) (ev_mono q hq) I fun t g₂ q I Y => by
    induction t with
    | true => exact isTrue_and_nil (k true g₂ q I (X.trans Y))
    | false => exact k false g₂ q I (X.trans Y))
  | false => exact k false g₁ q I X)⟩
theorem sE_or (ca : Ok sc x a) (cb : Ok sc y b) : Ok sc (.BoolOp .Or [x, y] pos) (.or a b) := ⟨fun _ _ => rfl,
 okE (ie := (.or a b)) fun G q I k => wpAny_Or2 (ca.ev G q I fun u x g₁ q hu I X => One.casesOn q fun t e q => truthy_snd e hu I fun s' e1 e2 e3 => by
  induction t with
  | false => exact cb.ev G (g := ⟨g₁.α, g₁.h, s'⟩) q (I.to e1) (k.up (X.trans (ExtX.same e1 e2 e3)))
  | true => exact (k.up X).same I q hu e1 e2 e3),
 okT (c := (.or a b)) fun {n C fr g R Q K} G q hq I k => isTrue_or (ca.ts G (Q := fun t h => if t = true then Q true h else (go n).ev b fr h R) (ev_mono q fun v h z => One.casesOn z fun t e q => ⟨t, e, by
   induction t with
   | false => exact q
   | true => exact one_tru (hq _ _ q) e⟩) I fun t g₁ q I X => by
  induction t with
  | false =>
   exact isTrue_or (cb.ts G (Q := Q) (ev_mono q hq) I fun t g₂ q I Y => by
    induction t with
    | false => exact isTrue_or_nil (k false g₂ q I (X.trans Y))
    | true => exact k true g₂ q I (X.trans Y))
  | true => exact k true g₁ q I X)⟩
theorem sE_ite {z : Expr} (cc : Ok sc z c) (ca : Ok sc x a) (cb : Ok sc y b) : Ok sc (.IfExp z x y pos) (.ite c a b) := ⟨fun _ _ => rfl,
 okE (ie := (.ite c a b)) fun G q I k => wpAny_IfExp (cc.ts G q I fun t g₁ q I X => by
  induction t with
  | true => exact ca.ev G q I (k.up X)
  | false => exact cb.ev G q I (k.up X)),
 okT (c := (.ite c a b)) fun {n C fr g R Q K} G q hq I k => isTrue_IfExp (cc.ts G q I fun t g₁ q I X => by
  induction t with
  | true => exact ca.ts G (Q := Q) (ev_mono q hq) I (k.up X)
  | false => exact cb.ts G (Q := Q) (ev_mono q hq) I (k.up X))⟩
end
end Mine
namespace Mine
open PySem PySem.W PySem.Calls PyProof.Rows PyProof.V PySem.Spec PySem.SeqAt
theorem clamp_spec (n : Nat) (i : Int) : max 0 (min (if i < 0 then i + n else i) (n : Int)) = (clampI n i : Int) := (Int.toNat_of_nonneg (Int.le_max_left _ _)).symm
inductive Part : AV → Option Int → Prop
 | none : Part .none none
 | int {i : Int} : Part (.int i) (some i)
noncomputable def clip (n : Nat) (d : Int) : Option Int → Int
 | none => d
 | some i => max 0 (min (if i < 0 then i + n else i) (n : Int))
theorem bounds_eq (n : Nat) (vl vu : Option Int) : sliceBounds vl vu none n = (clip n 0 vl, clip n n vu, 1) := by
 cases vl <;> cases vu <;> rfl
theorem lo_part {n l : Nat} {lo : AV} (h : boundLo n lo = some l) : ∃ v, Part lo v ∧ clip n 0 v = l := by
 induction lo with
 | none => exact ⟨none, .none, Option.some.inj h ▸ rfl⟩
 | int i => exact ⟨some i, .int, (clamp_spec n i).trans (congrArg Int.ofNat (Option.some.inj h))⟩
 | _ => exact noS h
theorem hi_part {n l : Nat} {hi : AV} (h : boundHi n hi = some l) : ∃ v, Part hi v ∧ clip n n v = l := by
 induction hi with
 | none => exact ⟨none, .none, Option.some.inj h ▸ rfl⟩
 | int i => exact ⟨some i, .int, (clamp_spec n i).trans (congrArg Int.ofNat (Option.some.inj h))⟩
 | _ => exact noS h
theorem isPart {α : List Addr} {x : AV} {v : Value} {o : Option Int} (p : Part x o) (hv : VR α x v) : IsPart v o := by
 induction p with
 | none => exact hv ▸ .none
 | int => exact VInt.casesOn hv (.int _ _)
section
variable {n : Nat} {C : Cx} {sc : Scope} {fr : Fm} {g : Sg} {Q : AV → Hp → Prop} {K : Value → Shared → Prop} {P : Prop}
theorem fm_congr {α β : Type} {f g : α → Option β} : ∀ {l : List α}, (∀ x ∈ l, f x = g x) → l.filterMap f = l.filterMap g
 | [], _ => rfl
 | x :: l, h => by rw [List.filterMap_cons, List.filterMap_cons, h x (.head _), fm_congr fun y hy => h y (.tail _ hy)]
theorem every2_spec {α : Type} : ∀ (m : Nat) (xs : List α), xs.length ≤ m → (List.range ((xs.length + 1) / 2)).filterMap (fun k => xs[2 * k]?) = every2 xs := by
 intro m
 induction m with
 | zero => intro xs h; cases xs with | nil => simp [every2] | cons x xs => simp at h
 | succ m ih =>
  intro xs h
  match xs, h with
  | [], _ => simp [every2]
  | [x], _ => simp [every2, List.range_succ]
  | x :: y :: r, h =>
   have e : ((x :: y :: r).length + 1) / 2 = (r.length + 1) / 2 + 1 := by simp; lia
   rw [e, List.range_succ_eq_map, List.filterMap_cons]
   simp only [Nat.mul_zero, List.getElem?_cons_zero, every2]
   rw [List.filterMap_map]
   congr 1
   have := ih r (by simp at h; lia)
   rw [← this]
   apply fm_congr
   intro k _
   simp [Nat.mul_add, Function.comp]
theorem slicePick_two (items : Array Value) (l : Nat) : slicePick items (some (l : Int)) none (some 2) = (every2 (items.toList.drop l)).toArray := by
 have hb : sliceBounds (some (l : Int)) none (some 2) items.size = (((min l items.size : Nat) : Int), (items.size : Int), 2) := by
  unfold sliceBounds
  simp only [Option.getD_some, show (2 : Int) > 0 from by lia, if_true, show ¬ ((l : Int) < 0) from by lia, if_false]
  congr 1
  lia
 unfold slicePick
 rw [hb]
 congr 1
 simp only
 have hr : sliceRange ((min l items.size : Nat) : Int) (items.size : Int) 2 = (List.range ((items.size - min l items.size + 1) / 2)).map fun k => min l items.size + 2 * k := by
  unfold sliceRange
  simp only [show (2 : Int) > 0 from by lia, if_true]
  have hc : (if ((min l items.size : Nat) : Int) < (items.size : Int) then ((items.size : Int) - ((min l items.size : Nat) : Int) + 2 - 1) / 2 else 0).toNat = (items.size - min l items.size + 1) / 2 := by
   split <;> lia
  rw [hc]
  apply List.map_congr_left
  intro k _
  lia
 rw [hr, List.filterMap_map]
 have hlen : (items.toList.drop l).length = items.size - min l items.size := by simp; lia
 rw [← every2_spec _ (items.toList.drop l) (Nat.le_refl _), hlen]
 apply fm_congr
 intro k hk
 simp only [Function.comp]
 rw [List.getElem?_drop, Array.getElem?_toList]
 have := List.mem_range.mp hk
 congr 1
 lia
theorem LR.every2 {α β : Type} {R : α → β → Prop} : ∀ {xs : List α} {ys : List β}, LR R xs ys → LR R (every2 xs) (every2 ys)
 | [], ys, h => h.n .nil
 | [x], ys, h => h.c1 fun y h => .one h
 | x :: x' :: xs, ys, h => h.c fun y r hxy ht => ht.c fun y' r' _ ht => .cons hxy (LR.every2 ht)
theorem every2_len {α : Type} : ∀ xs : List α, (Mine.every2 xs).length ≤ xs.length
 | [] => Nat.le_refl _
 | [x] => Nat.le_refl _
 | x :: x' :: xs => Nat.succ_le_succ (Nat.le_succ_of_le (every2_len xs))
theorem pick_of {α : List Addr} {xs ys : List AV} {vs : Array Value} {lo hi st : AV} (e : Slc xs lo hi st ys) (hr : LR (VR α) xs vs.toList)
  (k : ∀ a b c, Part lo a → Part hi b → Part st c → c ≠ some 0 → LR (VR α) ys (slicePick vs a b c).toList → ys.length ≤ xs.length → P) : P := by
 have hl : xs.length = vs.size := hr.length
 induction e with
 | @std lo hi l r e1 e3 =>
  rw [hl] at e1 e3
  obtain ⟨a, pa, ha⟩ := lo_part e1
  obtain ⟨b, pb, hb⟩ := hi_part e3
  refine k a b none pa pb .none nofun ?_ (by rw [List.length_drop, List.length_take]; exact Nat.le_trans (Nat.sub_le _ _) (Nat.min_le_right _ _))
  rw [kmk_pick_nat vs ((bounds_eq _ _ _).trans (by rw [ha, hb])), ← List.drop_take]
  simpa using (hr.take r).drop l
 | rev =>
  refine k none none (some (-1)) .none .none .int nofun ?_ (Nat.le_of_eq List.length_reverse)
  rw [krv_pick]
  simpa using hr.reverse
 | @two l h =>
  refine k (some l) none (some 2) .int .none .int nofun ?_ (Nat.le_trans (every2_len _) (by rw [List.length_drop]; exact Nat.sub_le _ _))
  have := slicePick_two vs l.toNat
  rw [Int.toNat_of_nonneg h] at this
  rw [this]
  simpa using (hr.drop l.toNat).every2
theorem slice_snd {value : Expr} {l u st : Option Expr} {p : Pos} {x y z w : AV} {vo vl vu vs : Value} (q : getSlice y z w g.h Q x) (hx : VR g.α x vo) (hy : VR g.α y vl) (hz : VR g.α z vu) (hw : VR g.α w vs) (I : Inv C fr g) (k : KE C fr g Q K) :
  C.wp (subscriptTail value (.Slice l u st p) vo (.ref g.s.heap.objs.size)) K { g.s with heap := g.s.heap.push { cls := .type "slice", data := .fields #[vl, vu, vs] } } := by
 induction q with
 | mk hk hsz e q =>
  refine VRef.casesOn hx fun {a} ha => listAt I hk ha fun its m hl hr hlen _ => pick_of e hr fun i j c e1 e2 e3 hc hp hle => ?_
  have kp : ∀ b o, g.s.heap.get? b = some o → (g.s.heap.push { cls := .type "slice", data := .fields #[vl, vu, vs] }).get? b = some o := fun b o e => Heap.get?_push_of_some _ e
  have hl2 : (g.s.heap.push { cls := .type "slice", data := .fields #[vl, vu, vs] }).IsList a its := isList_of (kp _ _ hl)
  have hsub : ∃ ops, subscripted (.Slice l u st p) false (.ref a) (.ref g.s.heap.objs.size) = operate ops (getItem (.ref a) (.ref g.s.heap.objs.size)) := by
   induction st with
   | none => exact ⟨_, rfl⟩
   | some e => exact ⟨_, rfl⟩
  refine hsub.elim fun ops hsub => tail_any (s := { g.s with heap := g.s.heap.push { cls := .type "slice", data := .fields #[vl, vu, vs] } }) hl2.typeIs list_getitem_lookup ?_ hsub
  refine wpAny_getItem_list_slice hl2 ⟨_, Heap.get?_push_size _ rfl, rfl, rfl⟩ (isPart e1 hy) (isPart e2 hz) (isPart e3 hw) hc ?_ (sz_le (le2 (hlen ▸ hsz)))
  exact (k.up (ExtX.keeps kp)).push (g := ⟨g.α, g.h, { g.s with heap := g.s.heap.push { cls := .type "slice", data := .fields #[vl, vu, vs] } }⟩) (InvH.keeps I kp) q (.mk (VR.monoL (List.prefix_append _ _) hp)) (newList (le2 (Nat.le_trans hle hsz)))
theorem seqIdx {i : Int} {n : Nat} (h : 0 ≤ i) (l : i.toNat < n) : seqIndex? i n = some i.toNat := by
 have h2 : i < n := Int.toNat_lt h |>.mp l
 unfold seqIndex?
 simp only [if_neg (Int.not_lt.mpr h), h, h2, decide_true, Bool.and_self, if_true]
theorem fit63 {i : Int} {n : Nat} (h : 0 ≤ i) (l : i.toNat < n) (z : n ≤ 200000) : i < 2 ^ 63 := Int.lt_of_lt_of_le (Int.toNat_lt h |>.mp (Nat.lt_of_lt_of_le l z)) (by decide)
noncomputable def PlainIdx (s : Expr) : Prop := ∀ o i, subscripted s false o i = operate [o, i] (getItem o i)
theorem idx_snd {value slice : Expr} {x y : AV} {u v : Value} (hs : PlainIdx slice) (q : getIdx g.h (fun v => Q v g.h) x y) (hu : VR g.α x u) (hv : VR g.α y v) (I : Inv C fr g) (k : KE C fr g Q K) : C.wp (subscriptTail value slice u v) K g.s := by
 induction q with
 | seq e l ev q =>
  refine VInt.casesOn hv (seqAt I e hu fun a vs hl hr hlen hz => One.casesOn ((hr.nth _).some_left ev) fun z hz1 hz2 => ?_)
  rw [Array.getElem?_toList] at hz1
  have hp := (Array.getElem?_eq_some_iff.mp hz1).1
  have hf := fit63 l hp (hlen ▸ hz)
  exact hl.elim (fun hl => tail_any hl.typeIs list_getitem_lookup (wpAny_getItem_list hl l hf hz1 (k.same I q hz2)) (hs _ _)) fun hl => tail_any hl.typeIs (T := "tuple") (id := "tuple.__getitem__") (by rw [typeLookup_type, builtinLookup_eq_fast]; kernel_rfl) (PyProof.Rows.getItem_tuple (items := vs) hl (Int.le_trans (by decide) l) hf (seqIdx l hp) hz1 (k.same I q hz2)) (hs _ _)
 | @neg j i xs w e l l' ev q =>
  refine VInt.casesOn hv (VRef.casesOn hu fun ha => listAt I e ha fun vs m hl hr hlen hz => One.casesOn ((hr.nth _).some_left ev) fun z hz1 hz2 => ?_)
  rw [Array.getElem?_toList, hlen] at hz1
  rw [hlen] at l' hz
  exact tail_any (isList_of hl).typeIs list_getitem_lookup (wpAny_getItem_list_neg (isList_of hl) l l' (Int.le_trans (Int.neg_le_neg (Int.le_trans (Int.ofNat_le.mpr hz) (by decide))) l') hz1 (k.same I q hz2)) (hs _ _)
 | dict e ev q =>
  refine VInt.casesOn hv (VRef.casesOn hu fun ha => dictAt I e ha fun kvs hd hr _ => One.casesOn ((ER.valueAt hr).some_left ev) fun z hz1 hz2 => ?_)
  exact tail_any hd.dictOf.typeIs (T := "dict") (id := "dict.__getitem__") (by rw [typeLookup_type, builtinLookup_eq_fast]; kernel_rfl) (wpAny_getItem_of (intKind_is _ _ _ _) hd.dictOf.mapOf hz1 (k.same I q hz2)) (hs _ _)
variable {e x y : Expr} {a b c d : IExpr} {pos : Pos}
theorem sE_idx (hs : PlainIdx y) (ca : Ok sc x a) (cb : Ok sc y b) : Ok sc (.Subscript x y pos) (.idx a b) := okX (fun _ _ => rfl) (fun _ => rfl) fun G q I k =>
 Subscript_ (ca.ev G q I fun u x g₁ q hu I X => cb.ev G q I fun v y g₂ q hv I Y => idx_snd hs q (hu.mono Y.pre) hv I (k.up (X.trans Y)))
noncomputable def OkO (sc : Scope) (l : Option Expr) (b : IExpr) : Prop := ∀ {n : Nat} {C : Cx} {fr : Fm} {g : Sg} {Q : AV → Hp → Prop} {K : Value → Shared → Prop}, Gd n C sc → (go n).ev b fr g.h Q → Inv C fr g → KE C fr g Q K → C.wp (evalPart l C.env) K g.s
theorem okO_none : OkO sc none .none := fun G q I k => (sE_none (m := 0) (pos := default)).ev G q I k
theorem okO_some (h : Ok sc e b) : OkO sc (some e) b := fun G q I k => wpAny_evalPart_some (h.ev G q I k)
theorem sE_slice {l u st : Option Expr} {p : Pos} (ca : Ok sc x a) (cl : OkO sc l b) (cu : OkO sc u c) (cs : OkO sc st d) : Ok sc (.Subscript x (.Slice l u st p) pos) (.slice a b c d) := okX (fun _ _ => rfl) (fun _ => rfl) fun G q I k =>
 Subscript_ (ca.ev G q I fun u x g₁ q hu I X => wpAny_Slice (cl G q I fun _ _ g₂ q h1 I Y => cu G q I fun _ _ g₃ q h2 I Z => cs G q I fun _ _ g₄ q h3 I U =>
  slice_snd q (hu.mono (Y.pre.trans (Z.pre.trans U.pre))) (h1.mono (Z.pre.trans U.pre)) (h2.mono U.pre) h3 I (k.up (X.trans (Y.trans (Z.trans U))))))
theorem evs_snd {es : List Expr} {as : List IExpr} (r : LR (Ok sc) es as) {Q : List AV → Hp → Prop} {K : List Value → Shared → Prop} (G : Gd n C sc) (q : evs (go n) as fr g.h Q) (I : Inv C fr g) (k : KL C fr g Q K) : C.wp (spliced (backTo pos (starEach es C.env))) K g.s := by
 induction r generalizing g Q K with
 | nil => exact wpAny_items_nil (k [] [] g q .nil I .refl)
 | cons h _ ih => exact wpAny_items_cons (h.ev G q I fun v x g₁ q hv I X => ih q I fun vs xs g₂ q hvs I Y => k _ (x :: xs) g₂ q (.cons (hv.mono Y.pre) hvs) I (X.trans Y)) (h.ns _ _)
theorem evs_len {r : Rec} {es : List IExpr} {h : Hp} {Q : List AV → Hp → Prop} (q : evs r es fr h Q) : evs r es fr h Q := q
theorem evs_sz {as : List IExpr} {h : Hp} {Q : List AV → Hp → Prop} (q : evs (go n) as fr h Q) : evs (go n) as fr h fun vs h => vs.length = as.length ∧ Q vs h := by
 induction as generalizing h Q with
 | nil => exact ⟨rfl, q⟩
 | cons e as ih => exact ev_mono q fun _ _ q => evs_mono (ih q) fun _ _ z => ⟨congrArg (· + 1) z.1, z.2⟩
theorem lit_sz {α : List Addr} {es : List Expr} {as : List IExpr} {xs : List AV} {vs : List Value} (r : LR (Ok sc) es as) (hl : es.length ≤ 1000) (e : xs.length = as.length) (hv : LR (VR α) xs vs) : xs.length ≤ 1000 ∧ vs.length ≤ sizeLine :=
 ⟨e ▸ r.length ▸ hl, sz_le (hv.length ▸ e ▸ r.length ▸ Nat.le_trans hl (by decide))⟩
theorem sE_list {es : List Expr} {as : List IExpr} (hl : es.length ≤ 1000) (r : LR (Ok sc) es as) : Ok sc (.List es pos) (.list as) := okX (fun _ _ => rfl) (fun _ => rfl) fun G q I k =>
 wpAny_List_spliced (evs_snd r G (evs_sz q) I fun vs xs g₁ q hv I X => ⟨(lit_sz r hl q.1 hv).2, (k.up X).push (tk := g₁.s.toks) I q.2 (.mk (VR.monoL (List.prefix_append _ _) hv)) (newList (Nat.le_trans (lit_sz r hl q.1 hv).1 (by decide)))⟩)
theorem sE_tuple {es : List Expr} {as : List IExpr} {m : Nat} (hl : es.length ≤ 1000) (r : LR (Ok sc) es as) : Ok sc (.Tuple es m pos) (.tuple as) := okX (fun _ _ => rfl) (fun _ => rfl) fun G q I k =>
 wpAny_Tuple_spliced (evs_snd r G (evs_sz q) I fun vs xs g₁ q hv I X => ⟨(lit_sz r hl q.1 hv).2, (k.up X).push (tk := g₁.s.toks) I q.2 (.mk (VR.monoL (List.prefix_append _ _) hv)) (newTup (Nat.le_trans (lit_sz r hl q.1 hv).1 (by decide)))⟩)
theorem sE_dict0 : Ok sc (.Dict [] [] pos) .dict0 := okX (fun _ _ => rfl) (fun _ => rfl) fun {n C fr g Q K} G q I k => wpAny_Dict_empty (k.push (tk := g.s.toks) I q (.mk (fun _ h => nomatch h) .nil .nil .nil) ⟨trivial, rfl, nofun, nofun⟩)
end
end Mine
namespace Mine
open PySem PySem.W PySem.Calls PyProof.Rows PyProof.V PySem.Spec PySem.SeqAt
section
variable {n : Nat} {C : Cx} {sc : Scope} {fr : Fm} {g : Sg} {Q : AV → Hp → Prop} {K : Value → Shared → Prop} {P : Prop} {pos : Pos}
noncomputable def KwR (sc : Scope) (k : Keyword) (p : Nat × IExpr) : Prop := ∃ e q, k = ⟨some (nm p.1), e, q⟩ ∧ Ok sc e p.2
theorem kws_some {kws : List Keyword} {ks : List (Nat × IExpr)} (r : LR (KwR sc) kws ks) (env : Env) : (backToKw pos (keywordEach kws env)).all (·.1.isSome) = true ∧ (backToKw pos (keywordEach kws env)).any (·.1.isNone) = false ∧
  (backToKw pos (keywordEach kws env)).filterMap (·.1) = ks.map fun p => nm p.1 := by
 induction r with
 | nil => exact ⟨rfl, rfl, rfl⟩
 | cons h _ ih =>
  obtain ⟨e, q, rfl, _⟩ := h
  exact ⟨(Bool.true_and _).trans ih.1, (Bool.false_or _).trans ih.2.1, congrArg (List.cons _) ih.2.2⟩
theorem kwv_snd {kws : List Keyword} {ks : List (Nat × IExpr)} (r : LR (KwR sc) kws ks) {Q : List AV → Hp → Prop} {K : List Value → Shared → Prop} (G : Gd n C sc) (q : evs (go n) (ks.map (·.2)) fr g.h Q) (I : Inv C fr g)
  (k : ∀ vs xs g', vs.length = ks.length → Q xs g'.h → LR (VR g'.α) xs vs → Inv C fr g' → Ext C g g' → K vs g'.s) : C.wp (evalAll ((backToKw pos (keywordEach kws C.env)).map (·.2))) K g.s := by
 induction r generalizing g Q K with
 | nil => exact wpAny_pure (k [] [] g rfl q .nil I .refl)
 | @cons kw p kws ks h r ih =>
  obtain ⟨e, z, rfl, h⟩ := h
  exact wpAny_evalAll_cons (wpAny_bind (h.ev G q I fun v x g₁ q hv I X => wpAny_bind (wpAny_standAt (wpAny_pure (ih q I fun vs xs g₂ l q hvs I Y => k _ (x :: xs) g₂ (congrArg (· + 1) l) q (.cons (hv.mono Y.pre) hvs) I (X.trans Y))))))
theorem kw_zip {α : List Addr} : ∀ {ks : List (Nat × IExpr)} {us : List AV} {vs : List Value}, LR (VR α) us vs → vs.length = ks.length → LR (KR α) ((ks.map (·.1)).zip us) ((ks.map fun p => nm p.1).zip vs)
 | [], us, vs, _, _ => by simp only [List.map_nil, List.zip_nil_left]; exact .nil
 | k :: ks, _, _, .nil, e => nomatch e
 | k :: ks, _, _, .cons h t, e => .cons ⟨rfl, h⟩ (kw_zip t (Nat.succ.inj e))
theorem plain_any {es : List Expr} {as : List IExpr} (r : LR (Ok sc) es as) (env : Env) : (backTo pos (starEach es env)).any (·.1) = false ∧ (backTo pos (starEach es env)).all (!·.1) = true := by
 induction r with
 | nil => exact ⟨rfl, rfl⟩
 | cons h _ ih => rw [h.ns]; exact ⟨(Bool.false_or _).trans ih.1, (Bool.true_and _).trans ih.2⟩
noncomputable def KA (C : Cx) (fr : Fm) (g : Sg) (Q : List AV → List (Nat × AV) → Hp → Prop) (K : Args → Shared → Prop) : Prop := ∀ a xs ks g', Q xs ks g'.h → LR (VR g'.α) xs a.pos → LR (KR g'.α) ks a.kw → Inv C fr g' → Ext C g g' → K a g'.s
theorem args_snd {fv : Value} {es : List Expr} {as : List IExpr} {kws : List Keyword} {ks : List (Nat × IExpr)} {Q : List AV → List (Nat × AV) → Hp → Prop} {K : Args → Shared → Prop} (r : LR (Ok sc) es as) (rk : LR (KwR sc) kws ks) (G : Gd n C sc)
  (q : evs (go n) as fr g.h fun vs h => evs (go n) (ks.map (·.2)) fr h fun us h => Q vs ((ks.map (·.1)).zip us) h) (I : Inv C fr g) (k : KA C fr g Q K) : C.wp (evalArgs fv true (backTo pos (starEach es C.env)) (backToKw pos (keywordEach kws C.env))) K g.s := by
 have k1 := kws_some (pos := pos) rk C.env
 have main : C.wp (spliced (backTo pos (starEach es C.env))) (fun vs s₁ => C.wp (evalAll ((backToKw pos (keywordEach kws C.env)).map (·.2))) (fun us s₂ => K ⟨vs, ((backToKw pos (keywordEach kws C.env)).filterMap (·.1)).zip us⟩ s₂) s₁) g.s :=
  evs_snd r G q I fun vs xs g₁ q hvs I X => kwv_snd rk G q I fun us ys g₂ l q hus I Y => by rw [k1.2.2]; exact k _ xs _ g₂ q (VR.monoL Y.pre hvs) (kw_zip hus l) I (X.trans Y)
 induction r with
 | nil =>
  unfold Cx.wp evalArgs
  refine wpAny_bind (wpAny_bind (wpAny_pure (wpAny_pure ?_)))
  try refine wpAny_bind (wpAny_pure ?_)
  refine wpAny_holding ?_
  rw [if_pos k1.1]
  exact wpAny_bind (wpAny_mono (kwv_snd (K := fun us s => K ⟨[], _⟩ s) rk G q I fun us ys g₂ l q hus I Y => by rw [k1.2.2]; exact k _ [] _ g₂ q .nil (kw_zip hus l) I Y) (fun _ _ z => wpAny_bind (wpAny_pure (wpAny_pure z))) fun _ _ z => z)
 | cons h _ => rw [h.ns] at main ⊢; exact evalArgs_kw k1.1 main
theorem star_of {v : AV} {xs : List AV} {u : Value} {K : List Value → Shared → Prop} (I : Inv C fr g) (e : Sq g.h v xs) (hv : VR g.α v u) (k : ∀ h' vs, LR (VR g.α) xs vs → (∀ b o, g.s.heap.get? b = some o → h'.get? b = some o) → K vs { g.s with heap := h' }) : StarOf C.M C.A FF u K g.s := by
 refine seqAt I e hv fun a vs hl hr hlen hz => ?_
 have hsz := sz_le (hlen ▸ hz)
 unfold StarOf notIterableAtAll
 refine hl.elim (fun hl => wpAny_bind (wpAny_specialOf hl.typeIs PySem.F.slot_list_iter.lookup (wpAny_pure ⟨rfl, ?_⟩))) fun hl => wpAny_bind (wpAny_specialOf hl.typeIs PySem.F.slot_tuple_iter.lookup (wpAny_pure ⟨rfl, ?_⟩))
 ·exact hl.elim fun o z => z.2.2.elim fun m hd => wpAny_collect_seq a (.inl rfl) z.1 z.2.1 hd (fun h' hk => k h' _ hr hk) hsz
 ·exact hl.elim fun o z => z.2.2.elim fun m hd => wpAny_collect_seq a (.inr rfl) z.1 z.2.1 hd (fun h' hk => k h' _ hr hk) hsz
inductive CA (sc : Scope) : List Expr → List IExpr → List IExpr → Prop
 | nil : CA sc [] [] []
 | star {e : Expr} {p : Pos} {a : IExpr} (h : Ok sc e a) : CA sc [.Starred e p] [] [a]
 | cons {e : Expr} {es : List Expr} {a : IExpr} {as st : List IExpr} (h : Ok sc e a) (t : CA sc es as st) : CA sc (e :: es) (a :: as) st
theorem CA.plain {es : List Expr} {as st : List IExpr} (c : CA sc es as st) (e : st = []) : LR (Ok sc) es as := by
 induction c with
 | nil => exact .nil
 | star h => exact nomatch e
 | cons h _ ih => exact .cons h (ih e)
theorem star_any {es : List Expr} {as st : List IExpr} (c : CA sc es as st) (env : Env) (hne : st ≠ []) : (backTo pos (starEach es env)).any (·.1) = true ∧ (backTo pos (starEach es env)).all (!·.1) = false := by
 induction c with
 | nil => exact absurd rfl hne
 | star h => exact ⟨rfl, rfl⟩
 | cons h _ ih => rw [h.ns]; exact ⟨(Bool.false_or _).trans (ih hne).1, (Bool.true_and _).trans (ih hne).2⟩
theorem splice_star {es : List Expr} {as st : List IExpr} (c : CA sc es as st) {Q : List AV → Hp → Prop} {K : List Value → Shared → Prop} (G : Gd n C sc) (q : evs (go n) as fr g.h fun vs h => stars (go n) st fr h fun ws h => Q (vs ++ ws) h) (I : Inv C fr g) (k : KL C fr g Q K) :
  C.wp (spliced (backTo pos (starEach es C.env))) K g.s := by
 induction c generalizing g Q K with
 | nil => exact wpAny_items_nil (k [] [] g q .nil I .refl)
 | star h => exact items_star (h.ev G q I fun v x g₁ q hv I X => StarG.casesOn q fun xs e l q => star_of I e hv fun h' vs hr hk => wpAny_items_nil (k _ xs ⟨g₁.α, g₁.h, _⟩ q (by simpa using hr) (InvH.keeps I hk) (X.trans (ExtX.keeps hk))))
 | cons h _ ih => exact wpAny_items_cons (h.ev G q I fun v x g₁ q hv I X => ih (Q := fun vs h => Q (x :: vs) h) q I fun vs xs g₂ q hvs I Y => k _ (x :: xs) g₂ q (.cons (hv.mono Y.pre) hvs) I (X.trans Y)) (h.ns _ _)
theorem argsS_snd {fv : Value} {es : List Expr} {as st : List IExpr} (c : CA sc es as st) {Q : List AV → Hp → Prop} {K : Args → Shared → Prop} (G : Gd n C sc) (q : evs (go n) as fr g.h fun vs h => stars (go n) st fr h fun ws h => Q (vs ++ ws) h) (I : Inv C fr g) (k : KL C fr g Q fun vs s => K ⟨vs, []⟩ s) :
  C.wp (evalArgs fv true (backTo pos (starEach es C.env)) []) K g.s := by
 have main := splice_star (pos := pos) c G q I k
 induction c with
 | nil =>
  unfold Cx.wp evalArgs
  refine wpAny_bind (wpAny_bind (wpAny_pure (wpAny_pure ?_)))
  try refine wpAny_bind (wpAny_pure ?_)
  exact wpAny_holding (wpAny_bind (wpAny_pure (wpAny_bind (wpAny_pure (wpAny_pure (k [] [] g q .nil I .refl))))))
 | star h => exact ks_lone (h.ev G q I fun v x g₁ q hv I X => StarG.casesOn q fun xs e l q => star_of I e hv fun h' vs hr hk => k _ xs ⟨g₁.α, g₁.h, _⟩ q hr (InvH.keeps I hk) (X.trans (ExtX.keeps hk)))
 | cons h _ => rw [h.ns] at main ⊢; exact evalArgs_plain main
end
end Mine
namespace Mine
open PySem PySem.W PySem.Calls PyProof.Rows PyProof.V PySem.Spec PySem.SeqAt
noncomputable def methId (m : Nat) : String := (["list.append", "list.extend", "list.pop", "list.insert", "list.clear", "list.index", "dict.get", "set.add"][m]?).getD ""
section
variable {n : Nat} {C : Cx} {sc : Scope} {fr : Fm} {g : Sg} {Q : AV → Hp → Prop} {K : Value → Shared → Prop} {P : Prop} {pos : Pos}
theorem KE.seq (k : KE C fr g Q K) {j : Nat} {xs ys : List AV} {a : Addr} {items : Array Value} {m tk : Nat} {f : Array Value → Array Value} {v : Value} {x : AV} (I : Inv C fr g) (hk : g.h[j]? = some (.list xs)) (ha : g.α[j]? = some a)
  (hl : g.s.heap.get? a = some ⟨.type "list", none, .seq items m, #[]⟩) (hr : LR (VR g.α) ys (f items).toList) (hz : ys.length ≤ 200000) (q : Q x (g.h.set j (.list ys))) (hv : VR g.α x v) : K v { g.s with heap := g.s.heap.update a (Obj.mapSeq f), toks := tk } :=
 I.turnS (s' := { g.s with heap := g.s.heap.update a (Obj.mapSeq f), toks := tk }) (o' := .list ys) hk ha nofun rfl hz (Heap.SameBut.update _ _ _) (PySem.IsL.update (h := g.s.heap) (l := a) (items := items) (n := m) hl f) (.mk hr) fun I X => k v x ⟨g.α, g.h.set j (.list ys), _⟩ q hv I X
theorem ints_get {α : List Addr} {xs : List AV} {vs : List Value} (r : LR (VR α) xs vs) {ns : List Int} (e : ints? xs = some ns) (i : Nat) {j : Int} (h : ns[i]? = some j) : ∃ t, vs[i]? = some (.int j t) := by
 induction r generalizing ns i with
 | nil => cases e; exact noS h
 | @cons x y xs ys hx _ ih =>
  induction x with
  | int x =>
   obtain ⟨ms, e1, e2⟩ := Option.map_eq_some_iff.mp e
   cases e2
   cases i with
   | zero => cases h; exact VInt.casesOn hx fun {t} => ⟨t, rfl⟩
   | succ i => exact ih e1 i h
  | _ => exact noS e
theorem ints_len : ∀ {xs : List AV} {ns : List Int}, ints? xs = some ns → xs.length = ns.length
 | [], _, e => by cases e; rfl
 | .int j :: xs, _, e => by
  obtain ⟨ms, e1, e2⟩ := Option.map_eq_some_iff.mp e
  cases e2
  exact congrArg (· + 1) (ints_len e1)
theorem sz_le3 {x y : Nat} (hx : x ≤ 200000) (hy : y ≤ 200000) : x + y ≤ sizeLine := by rw [sizeLine_eq]; exact Nat.le_trans (Nat.add_le_add hx hy) (by decide : 200000 + 200000 ≤ _)
theorem not_long {b : Bool} {x y : Nat} (hx : x ≤ 200000) (hy : y ≤ 200000) : ¬(b && Builtin.List.listTooLong (x + y)) = true := fun z => Nat.not_lt.mpr (sz_le3 hx hy) (of_decide_eq_true (Bool.and_eq_true_iff.mp z).2)
theorem bmeth_snd {m j : Nat} {as : List AV} {vs : List Value} {a : Addr} (W : WdH C.B C.w C.mg C.mb) (q : bmeth g.h j Q m as) (ha : g.α[j]? = some a) (hr : LR (VR g.α) as vs) (I : Inv C fr g) (k : KE C fr g Q K) : C.wp (call (.builtin (methId m)) (.ref a :: vs)) K g.s := by
 induction q with
 | append e l q =>
  refine hr.c1 fun y hy => listAt I e ha fun vs nn hl hrl hsz hz => ?_
  exact call_meets F.slot_list_append ⟨_, hl, rfl⟩ F.entry_list_append (F.args_list_append_2 _ _) (PySem.list_append a vs nn y (sz_le (hsz ▸ hz))) ⟨hl, k.seq I e ha hl (by simpa using hrl.append (.one hy)) (by rw [List.length_append]; exact Nat.le_trans (Nat.add_le_add_right l _) (by decide : 100000 + 1 ≤ 200000)) q rfl⟩
 | extend e l e' l' q =>
  refine hr.c1 fun y hy => listAt I e ha fun vs nn hl hrl hsz hz => ?_
  have hlen := (List.length_append ▸ Nat.le_trans (Nat.add_le_add l l') (by decide) : (_ ++ _ : List AV).length ≤ 200000)
  induction e' with
  | list e' =>
   refine VRef.casesOn hy fun hb => listAt I e' hb fun us n2 hl2 hr2 hsz2 hz2 => ?_
   exact call_meets F.slot_list_extend ⟨_, hl, rfl⟩ F.entry_list_extend (F.args_list_extend_2 _ _) (AutoSeq1.list_extend_list_list_0 a vs nn _ us n2 (not_long (hsz ▸ hz) (hsz2 ▸ hz2)) (sz_le (hsz ▸ hz)) (Nat.le_succ_of_le (sz_le3 (hsz ▸ hz) (hsz2 ▸ hz2)))) ⟨hl, hl2, k.seq I e ha hl (by simpa using hrl.append hr2) hlen q rfl⟩
  | tuple e' =>
   refine VRef.casesOn hy fun hb => tupAt I e' hb fun us n2 hl2 hr2 hsz2 hz2 => ?_
   exact call_meets F.slot_list_extend ⟨_, hl, rfl⟩ F.entry_list_extend (F.args_list_extend_2 _ _) (AutoSeq1.list_extend_list_tuple_0 a vs nn _ us n2 (not_long (hsz ▸ hz) (hsz2 ▸ hz2)) (sz_le (hsz ▸ hz)) (Nat.le_succ_of_le (sz_le3 (hsz ▸ hz) (hsz2 ▸ hz2)))) ⟨hl, hl2, k.seq I e ha hl (by simpa using hrl.append hr2) hlen q rfl⟩
 | pop e l ev q =>
  refine hr.n (listAt I e ha fun vs nn hl hrl hsz hz => One.casesOn (hrl.getLast?.some_left ev) fun y e2 hy => ?_)
  have e3 : vs[vs.size - 1]? = some y := by rw [List.getLast?_eq_getElem?] at e2; simpa using e2
  refine call_meets F.slot_list_pop ⟨_, hl, rfl⟩ F.entry_list_pop (F.args_list_pop_1 _) (MeetsSeq.list_pop_last a vs nn y e3 (sz_le (hsz ▸ hz))) ⟨hl, k.seq I e ha hl ?_ (by rw [List.length_dropLast]; exact Nat.le_trans (Nat.sub_le _ _) hz) q hy⟩
  rw [Array.toList_eraseIdxIfInBounds, show vs.size = vs.toList.length from rfl, List.eraseIdx_length_sub_one]
  exact hrl.dropLast
 | @pop0 xs v e l q =>
  refine hr.c1 fun y hy => VInt.casesOn hy fun {t} => listAt I e ha fun vs nn hl hrl hsz hz => ?_
  obtain ⟨vs⟩ := vs
  refine hrl.c (C := fun us => g.s.heap.get? a = some (⟨.type "list", none, .seq ⟨us⟩ nn, #[]⟩ : Obj) → (v :: xs).length = us.length → _) (fun y r hy ht hl hsz => ?_) hl hsz
  exact call_meets F.slot_list_pop ⟨_, hl, rfl⟩ F.entry_list_pop (F.args_list_pop_2 _ _) (MeetsSeq.list_pop_at a ⟨y :: r⟩ nn 0 t 0 y rfl (seqIdx (Int.le_refl 0) (Nat.succ_pos _)) rfl (sz_le (Nat.le_trans (Nat.le_of_eq hsz.symm) hz))) ⟨hl, k.seq I e ha hl (by rw [Array.toList_eraseIdxIfInBounds]; exact ht) (Nat.le_trans (Nat.le_succ _) hz) q hy⟩
 | @insert xs i v e l i0 i1 q =>
  refine hr.c fun y r hy ht => VInt.casesOn hy (ht.c1 fun y2 hy2 => listAt I e ha fun vs nn hl hrl hsz hz => ?_)
  have it : i.toNat ≤ vs.size := Int.toNat_le.mpr (hsz ▸ i1)
  refine call_meets F.slot_list_insert ⟨_, hl, rfl⟩ F.entry_list_insert (F.args_list_insert_3 _ _ _) (AutoListH.list_insert_list_int_val_1 a vs nn i _ y2 (fun z => ?_) (sz_le (hsz ▸ hz))) ⟨hl, ?_⟩
  ·simp [Builtin.List.listFitsIndex] at z
   lia
  ·refine k.seq I e ha hl ?_ (by rw [List.length_append, List.length_cons, List.length_take, List.length_drop]; lia) q rfl
   have e1 : (if i < 0 then (i + ((vs.size : Nat) : Int)).toNat else min i.toNat vs.size) = i.toNat := by rw [if_neg (Int.not_lt.mpr i0)]; exact Nat.min_eq_left it
   simp only [e1]
   have e2 : ((vs.extract 0 i.toNat).push y2 ++ vs.extract i.toNat).toList = vs.toList.take i.toNat ++ y2 :: vs.toList.drop i.toNat := by
    simp
    rw [List.take_of_length_le (by simp)]
   rw [e2]
   exact (hrl.take _).append (.cons hy2 (hrl.drop _))
 | clear e l q => exact hr.n (listAt I e ha fun vs nn hl hrl hsz hz => call_meets F.slot_list_clear ⟨_, hl, rfl⟩ F.entry_list_clear (F.args_list_clear_1 _) (AutoSeq1.list_clear_list_0 a vs nn (sz_le (hsz ▸ hz))) ⟨hl, k.seq I e ha hl .nil (Nat.zero_le _) q rfl⟩)
 | @index xs ns i e l e' hm q =>
  refine hr.c1 fun y hy => VInt.casesOn hy fun {t} => listAt I e ha fun vs nn hl hrl hsz hz => ?_
  have hlt := List.idxOf_lt_length_of_mem hm
  have hlen := ints_len e'
  have gi : ∀ (j : Nat) (hj : j < vs.size), ∃ t, vs[j] = .int (ns[j]'(hlen ▸ hsz ▸ hj)) t := fun j hj => (ints_get hrl e' j (List.getElem?_eq_getElem (hlen ▸ hsz ▸ hj))).elim fun t z => ⟨t, by rw [Array.getElem?_toList, Array.getElem?_eq_getElem hj] at z; exact Option.some.inj z⟩
  refine call_meets F.slot_list_index ⟨_, hl, rfl⟩ F.entry_list_index (F.args_list_index_2 _ _) (MeetsSeq.list_index a vs nn (.int i t) (fun y => Value.isInt i y) (fun y hy => ?_) (ns.idxOf i) (hsz ▸ hlen ▸ hlt) (Int.lt_of_lt_of_le (Int.ofNat_lt.mpr (Nat.lt_of_lt_of_le hlt (hlen ▸ hz))) (by decide)) ?_ (fun m hm' hlt2 => ?_)) ⟨hl, k.same I q vint⟩
  ·obtain ⟨j, hj, rfl⟩ := Array.mem_iff_getElem.mp hy
   obtain ⟨t', ht'⟩ := gi j hj
   rw [ht']
   exact fun prog w A E s Q q => wpAny_eqBool_int q
  ·obtain ⟨t', ht'⟩ := gi _ (hsz ▸ hlen ▸ hlt)
   rw [ht', List.getElem_idxOf hlt]
   simp [Value.isInt]
  ·obtain ⟨t', ht'⟩ := gi m hm'
   rw [ht']
   have := List.not_of_lt_findIdx (xs := ns) (p := (· == i)) (i := m) hlt2
   simpa [Value.isInt] using this
 | @get es nn i e q =>
  refine hr.c1 fun y hy => VInt.casesOn hy fun {t} => dictAt I e ha fun kvs hd hrd _ => call_meetsIn F.slot_dict_get hd.dictOf.typeIs F.entry_dict_get (F.args_dict_get_2 _ _) (meets_dict_get (kd C.w) a (intKind_is _ _ i t) (sysNe I W e nofun ha)) ⟨_, hd.dictOf.mapOf, k.same I q ?_⟩
  have := ER.valueAt hrd (i := i)
  cases e : dget es i with
  | none => rw [this.none_left e]; rfl
  | some v => exact One.casesOn (this.some_left e) fun u e2 hu => by rw [e2]; exact hu
 | @add es i e l q =>
  refine hr.c1 fun y hy => VInt.casesOn hy fun {t} => call_set_add (intKind_is _ _ i t) rfl (setAt I e ha) (Nat.lt_of_le_of_lt (Nat.succ_le_succ l) (by decide : 1000 + 1 < 4096)) fun h' hs' hS' => ?_
  obtain ⟨c', ens', ep', tt', hc', hx', hd', hel', hmem', hb', hft', hsz'⟩ := hS'
  refine I.turnS (s' := { g.s with heap := h', toks := g.s.toks + 1 }) (o' := .set (if i ∈ es then es else es ++ [i])) e ha nofun rfl trivial hs' hc' ⟨⟨hx', ens', ep', tt', hd', hel', fun k' => ?_, ?_, hft'⟩, ?_⟩ fun I X => k _ .none ⟨g.α, _, { g.s with heap := h', toks := g.s.toks + 1 }⟩ q rfl I X
  ·refine Iff.trans ?_ (hmem' k')
   by_cases z : i ∈ es
   ·simp only [z, if_true, decide_eq_true_eq, Bool.or_eq_true]
    exact ⟨.inl, fun w => w.elim id fun w => w ▸ z⟩
   ·simp only [z, if_false, decide_eq_true_eq, Bool.or_eq_true, List.mem_append, List.mem_singleton]
  ·rw [hsz']
   by_cases z : i ∈ es <;> simp [z]
  ·split
   ·lia
   ·rw [List.length_append]; exact Nat.lt_of_le_of_lt (Nat.add_le_add_right l _) (by decide : 1000 + 1 < 4000)
end
end Mine
namespace Mine
open PySem PySem.W PySem.Calls PyProof.Rows PyProof.V PySem.Spec PySem.SeqAt
theorem nm_big : (nmL.all fun s => s.cps.all fun c => decide (c < 2000000)) = true := by decide +kernel
theorem nm_nd : nmL.Nodup := by decide +kernel
theorem nm_ne {s : Str} {z : Nat} {P : Prop} (h : nmL[z]? = none) (e : (nmL[z]?).getD ⟨#[2000000 + z]⟩ = s) (hs : s ∈ nmL) : P := by
 rw [h] at e
 have h2 : s = ⟨#[2000000 + z]⟩ := e.symm
 have := List.all_eq_true.mp nm_big s hs
 rw [h2] at this
 simp at this
 exact absurd this (Nat.not_lt.mpr (Nat.le_add_right _ _))
theorem nmI {x y : Nat} (e : nm x = nm y) : x = y := by
 unfold nm at e
 cases hx : nmL[x]? with
 | none =>
  cases hy : nmL[y]? with
  | none => rw [hx, hy] at e; simp at e; exact e
  | some s => exact nm_ne hx (s := s) (by rw [e, hy]; rfl) (List.mem_of_getElem? hy)
 | some s =>
  cases hy : nmL[y]? with
  | none => exact nm_ne hy (s := s) (by rw [← e, hx]; rfl) (List.mem_of_getElem? hx)
  | some s' =>
   rw [hx, hy] at e
   have e : s = s' := e
   subst e
   exact (List.getElem?_inj (List.getElem?_eq_some_iff.mp hx).1 nm_nd).mp (hx.trans hy.symm)
theorem mem_of_lk {α β : Type} [BEq α] [LawfulBEq α] {k : α} {v : β} : ∀ {l : List (α × β)}, l.lookup k = some v → (k, v) ∈ l
 | [], e => nomatch e
 | (a, b) :: r, e => by
  rw [List.lookup_cons] at e
  cases h : k == a with
  | true => rw [h] at e; cases e; rw [beq_iff_eq.mp h]; exact .head _
  | false => rw [h] at e; exact .tail _ (mem_of_lk e)
noncomputable abbrev MethF (K : Frag) (m j : Nat) : Prop := findIn K (.ref cTS) (nm m) = some (some (.ref (fad j))) ∧ typeIn K (.ref (fad j)) = some (.type "function") ∧ specialIn K (.ref (fad j)) "__get__" = some (some (.builtin "function.__get__")) ∧
 takesIn K (.ref (fad j)) = some false ∧ fnIn K (fad j) = true ∧ m ∉ attrs ∧ copiedNames.contains (nm m) = false ∧ keepIn K (.ref (fad j)) = true
theorem methF (P : Params) : (prog.meths.all fun p => decide (MethF (kf P) p.1 p.2)) = true := by kernel_rfl
theorem tsM (P : Params) {m j : Nat} (e : prog.meths.lookup m = some j) : MethF (kf P) m j := of_decide_eq_true (List.all_eq_true.mp (methF P) (m, j) (mem_of_lk e))
theorem tsF_ (P : Params) : (attrs.all fun x => decide (findIn (kf P) (.ref cTS) (nm x) = some none)) = true := by kernel_rfl
theorem tsF (P : Params) {x : Nat} (h : x ∈ attrs) : findIn (kf P) (.ref cTS) (nm x) = some none := of_decide_eq_true (List.all_eq_true.mp (tsF_ P) x h)
theorem gaF (P : Params) (b : Bool) : findIn (kf P) (.ref (clsA b)) "__getattribute__" = some (some (.builtin "object.__getattribute__")) := by cases b <;> kernel_rfl
theorem saF (P : Params) (b : Bool) : findIn (kf P) (.ref (clsA b)) "__setattr__" = some (some (.builtin "object.__setattr__")) := by cases b <;> kernel_rfl
theorem ggF (P : Params) (b : Bool) : findIn (kf P) (.ref (clsA b)) "__getattr__" = some none := by cases b <;> kernel_rfl
theorem poF (P : Params) (b : Bool) : plainOver (kf P) (clsA b) = true := by cases b <;> kernel_rfl
theorem tsH (P : Params) : (clsIn (kf P) cTS).any (·.hasDict) = true := by kernel_rfl
noncomputable def refOf : Option (Option Value) → Addr
 | some (some (.ref p)) => p
 | _ => 0
noncomputable def slotA (K : Frag) (x : Nat) : Addr := refOf (findIn K (.ref cND) (nm x))
noncomputable abbrev SlotF (K : Frag) (x : Nat) : Prop := findIn K (.ref cND) (nm x) = some (some (.ref (slotA K x))) ∧ specialIn K (.ref (slotA K x)) "__get__" = some (some (.builtin "member_descriptor.__get__")) ∧ takesIn K (.ref (slotA K x)) = some true ∧
  typeIn K (.ref (slotA K x)) = some (.type "member_descriptor") ∧ slotIn K (slotA K x) cND = some (slN x)
theorem slotF_ (P : Params) : ([9, 10, 11].all fun x => decide (SlotF (kf P) x)) = true := by kernel_rfl
theorem slotF (P : Params) {x : Nat} (h : x = 9 ∨ x = 10 ∨ x = 11) : SlotF (kf P) x := of_decide_eq_true (List.all_eq_true.mp (slotF_ P) x (by rcases h with rfl | rfl | rfl <;> simp))
theorem slN_lt (x : Nat) : slN x < 1000 := by unfold slN; split; decide; split <;> decide
theorem slN_inj {x y : Nat} (hx : x = 9 ∨ x = 10 ∨ x = 11) (hy : y = 9 ∨ y = 10 ∨ y = 11) (e : slN x = slN y) : x = y := by
 rcases hx with rfl | rfl | rfl <;> rcases hy with rfl | rfl | rfl <;> first | rfl | exact absurd e (by decide)
theorem fnKeep_ (P : Params) : (prog.fns.zipIdx.all fun p => !p.1.isDef || keepIn (kf P) (.ref (fad p.2))) = true := by kernel_rfl
theorem fnKeep (P : Params) {k : Nat} {f : IFn} (e : prog.fns[k]? = some f) (d : f.isDef = true) : keepIn (kf P) (.ref (fad k)) = true := by
 have := List.all_eq_true.mp (fnKeep_ P) (f, k) (List.mem_zipIdx_iff_getElem?.mpr e)
 simp only [d, Bool.not_true, Bool.false_or] at this
 exact this
theorem clKeep (P : Params) (b : Bool) : keepIn (kf P) (.ref (clsA b)) = true := by cases b <;> kernel_rfl
noncomputable def iniF (b : Bool) : Nat := if b then prog.ndInit else prog.tsInit
theorem mkF (P : Params) (b : Bool) : makesIn (kf P) (clsA b) = true := by cases b <;> kernel_rfl
theorem inF (P : Params) (b : Bool) : findIn (kf P) (.ref (clsA b)) "__init__" = some (some (.ref (fad (iniF b)))) := by cases b <;> kernel_rfl
theorem ifF (P : Params) (b : Bool) : typeIn (kf P) (.ref (fad (iniF b))) = some (.type "function") := by cases b <;> kernel_rfl
end Mine
namespace Mine
open PySem PySem.W PySem.Calls PyProof.Rows PyProof.V PySem.Spec PySem.SeqAt
section
variable {n : Nat} {C : Cx} {sc : Scope} {fr : Fm} {g : Sg} {Q : AV → Hp → Prop} {K : Value → Shared → Prop} {P : Prop} {pos : Pos}
theorem inK (W : WdH C.B C.w C.mg C.mb) (I : Inv C fr g) : (kf C.w.params).In g.s.heap := fun a o e => I.sim.base a o (W.k a o e)
theorem nameK (ens : Array DictEntry) (nn : Nat) (name : Str) (hk : StrKeys ens) : lookIn name (⟨.type "dict", none, .dict ens nn, #[]⟩ : Obj) = some (nsFind ens name) := by
 unfold lookIn nsFind findBy
 simp only
 rw [← Array.find?_toList]
 cases h : ens.toList.find? fun e => e.key.isStr name with
 | some en => rfl
 | none =>
  have : ens.toList.any (·.refKey) = false := by
   rw [List.any_eq_false]
   intro e he
   obtain ⟨n, t, q⟩ := hk e (Array.mem_toList_iff.mp he)
   simp [DictEntry.refKey, q]
  rw [this]; rfl
theorem instAt (I : Inv C fr g) {k d : Nat} {es : List (Nat × AV)} {a : Addr} (e : g.h[k]? = some (.inst d)) (e' : g.h[d]? = some (.ns es)) (ha : g.α[k]? = some a)
  (K : ∀ dx ens m, g.α[d]? = some dx → W.InstAt g.s.heap a (instObj cTS dx) cTS (some ⟨.type "dict", none, .dict ens m, #[]⟩) → g.s.heap.get? dx = some ⟨.type "dict", none, .dict ens m, #[]⟩ → StrKeys ens → ens.size ≤ es.length →
   (∀ x v, es.lookup x = some v → One (nsFind ens (nm x)) (VR g.α v)) → (∀ name u, nsFind ens name = some u → name ∈ attrs.map nm) → P) : P :=
 obAt I e ha fun c hc r => OInst.casesOn (motive := fun c _ => g.s.heap.get? a = some c → P) r (fun {dx} hd hc => obAt I e' hd fun c' hc' r => ONs.casesOn (motive := fun c _ => g.s.heap.get? dx = some c → P) r (fun h1 h2 h3 h4 hc' => K dx _ _ hd ⟨hc, rfl, rfl, hc'⟩ hc' h1 h2 h3 h4) hc') hc
theorem nodeAt (I : Inv C fr g) {k d : Nat} {x y z : Option AV} {a : Addr} (e : g.h[k]? = some (.node d x y z)) (ha : g.α[k]? = some a)
  (K : ∀ dx sl, g.α[d]? = some dx → W.InstAt g.s.heap a ⟨.ref cND, some dx, .plain, sl⟩ cND (some emptyDict) → (∀ i v, nodeF x y z i = some v → One (sl[slN i]?).join (VR g.α v)) → P) : P :=
 obAt I e ha fun c hc r => ONode.casesOn (motive := fun c _ => g.s.heap.get? a = some c → P) r (fun {dx sl} hd r hc => obAt I (I.sim.wf.hidAt e) hd fun c' hc' r' => K dx sl hd ⟨hc, rfl, rfl, (Eq.symm r' : c' = emptyDict) ▸ hc'⟩ r) hc
theorem handed_of {α : List Addr} {x : AV} {v : Value} (hv : VR α x v) : handedIn v = true := by
 induction x with
 | none => exact hv ▸ rfl
 | bool b => exact hv ▸ rfl
 | int i => exact VInt.casesOn hv rfl
 | ref k => exact VRef.casesOn hv fun _ => rfl
 | fn k => exact hv ▸ rfl
 | cls b => exact hv ▸ rfl
theorem nodeF_mem {a b c : Option AV} {x : Nat} {v : AV} (e : nodeF a b c x = some v) : x = 9 ∨ x = 10 ∨ x = 11 := by
 unfold nodeF at e
 by_cases h1 : x = aNode
 ·exact .inl h1
 by_cases h2 : x = aNpred
 ·exact .inr (.inl h2)
 by_cases h3 : x = aSucc
 ·exact .inr (.inr h3)
 rw [if_neg h1, if_neg h2, if_neg h3] at e; exact noS e
theorem attr_snd {x k d : Nat} {es : List (Nat × AV)} {a : Addr} {v : AV} {ex : Bool} (G : Gd n C sc) (hx : x ∈ attrs) (o : g.h[k]? = some (.inst d)) (e : g.h[d]? = some (.ns es)) (ev : es.lookup x = some v) (q : Q v g.h) (ha : g.α[k]? = some a) (I : Inv C fr g) (K' : KE C fr g Q K) :
  C.wp (getAttr (.ref a) (nm x) ex) K g.s :=
 instAt I o e ha fun dx ens m hdx IA _ hsk _ hr _ => One.casesOn (hr x v ev) fun w hw hvw => get_value (inK G.W I) IA (gaF _ false) (v := w) (by
  obtain ⟨cd, hc, hh⟩ := any_some (tsH C.w.params)
  unfold findObj
  rw [hc, tsF _ hx]
  simp only [Option.bind_some, PySem.W.ownOf, hh, if_true, nameK ens m _ hsk, hw]) (handed_of hvw) (K'.same I q hvw)
theorem nodeAttr_snd {x k d : Nat} {a' b' c' : Option AV} {a : Addr} {v : AV} {ex : Bool} (G : Gd n C sc) (o : g.h[k]? = some (.node d a' b' c')) (ev : nodeF a' b' c' x = some v) (q : Q v g.h) (ha : g.α[k]? = some a) (I : Inv C fr g) (K' : KE C fr g Q K) :
  C.wp (getAttr (.ref a) (nm x) ex) K g.s := by
 obtain ⟨f1, f2, f3, f4, f5⟩ := slotF C.w.params (nodeF_mem ev)
 refine nodeAt I o ha fun dx sl hdx IA hr => One.casesOn (hr x v ev) fun w hw hvw => get_bind (inK G.W I) IA (gaF _ true) (?_ : findObj (kf C.w.params) cND (some emptyDict) (nm x) = some (.bind (.builtin "member_descriptor.__get__") (.ref (slotA (kf C.w.params) x)))) (ggF _ true) ?_
 ·obtain ⟨cd, hc, _⟩ := any_some (poF C.w.params true)
  unfold findObj
  rw [show clsIn (kf C.w.params) cND = some cd from hc, f1]
  simp only [Option.bind_some, f2, f3]
 ·refine wpAny_call (slot_get (s := { g.s with toks := g.s.toks + 1 }) (inK G.W I) IA f5 hw ?_)
  show wpAny _ _ (handedOut w) _ _ _
  rw [handedOut_of (handed_of hvw)]
  exact wpAny_pure (K'.same I q hvw)
theorem ledTurn {h : Heap} {L a : Addr} {o : Obj} (e : h.get? a = some o) (nL : a ≠ L) (K : ∀ pre post, News noHeap L h (pre ++ (a, o) :: post) → (∀ p ∈ pre, p.1 ≠ a) → (∀ p ∈ post, p.1 ≠ a) → (∀ h' c, News noHeap L h' (pre ++ (a, c) :: post) → h'.get? a = some c ∧ ∀ b x, b ≠ a → b ≠ L → h.get? b = some x → h'.get? b = some x) → P) : P := by
 obtain ⟨pre, post, hs⟩ := List.append_of_mem (mem_liveAll e nL)
 have hnd : ((liveAll h L).map (·.1)).Nodup := by
  unfold liveAll
  rw [List.map_filterMap]
  refine List.Pairwise.filterMap _ (R := (· ≠ ·)) (fun x y hxy b hb c hc => ?_) List.nodup_range
  have key : ∀ {x b : Addr}, (if x = L then none else (h.get? x).map fun o => (x, o)).map (·.1) = some b → b = x := fun {x b} hb => by
   by_cases q : x = L
   ·rw [if_pos q] at hb; exact noS hb
   ·rw [if_neg q] at hb
    obtain ⟨p, hp, rfl⟩ := Option.map_eq_some_iff.mp hb
    obtain ⟨o, _, rfl⟩ := Option.map_eq_some_iff.mp hp
    rfl
  rw [key hb, key hc]; exact hxy
 rw [hs, List.map_append, List.map_cons, List.nodup_append] at hnd
 refine K pre post (hs ▸ news_all h L) (fun p hp q => hnd.2.2 p.1 (List.mem_map_of_mem hp) a (.head _) q) (fun p hp q => (List.nodup_cons.mp hnd.2.1).1 (q ▸ List.mem_map_of_mem (f := (·.1)) hp)) fun h' c N => ⟨(N (a, c) (List.mem_append_right _ (.head _))).1, fun b x hb hL e => (N (b, x) ?_).1⟩
 have hm : (b, x) ∈ pre ++ (a, o) :: post := hs ▸ mem_liveAll e hL
 exact (List.mem_append.mp hm).elim (List.mem_append_left _) fun z => List.mem_append_right _ ((List.mem_cons.mp z).elim (fun z => absurd (Prod.mk.inj z).1 hb) (.tail _))
theorem put_spec {ens : Array DictEntry} {nn : Nat} (name : Str) (hsh : Int) (t : Tok) (v : Value) (hk : StrKeys ens) :
  ∃ ens' n', Obj.putName name hsh (.str name t) v (⟨.type "dict", none, .dict ens nn, #[]⟩ : Obj) = ⟨.type "dict", none, .dict ens' n', #[]⟩ ∧ StrKeys ens' ∧ (∀ x, nsFind ens' x = if x = name then some v else nsFind ens x) ∧
   ens'.size ≤ ens.size + 1 ∧ ((nsFind ens name).isSome = true → ens'.size = ens.size) := by
 cases hi : ens.findIdx? (·.key.isStr name) with
 | some i => exact ⟨ens.modify i fun e => { e with val := v }, nn, by simp only [Obj.putName_eq, Obj.putNameByArray, hi], hk.modify _ _, fun x => findBy_modify (fun n v => v.isStr n) Value.isStr_inj ens name x v i hi, by simp, fun _ => by simp⟩
 | none =>
  refine ⟨ens.push ⟨hsh, .str name t, v⟩, nn + 1, by simp only [Obj.putName_eq, Obj.putNameByArray, hi], hk.push _ _ _ _, fun x => ?_, by simp, fun q => ?_⟩
  ·exact findBy_push (fun n v => v.isStr n) ens name x _ _ v (fun y => by
    show (name == y) = decide (y = name)
    by_cases h : y = name
    ·subst h; simp
    ·simp [h, show ¬ name = y from fun e => h e.symm]) hi
  ·have hn : nsFind ens name = none := by
    unfold nsFind
    rw [findBy_of_findIdx?, hi]
   rw [hn] at q; cases q
theorem nput_lookup {x : Nat} {v : AV} (y : Nat) : ∀ {es : List (Nat × AV)}, (nput es x v).lookup y = if y = x then some v else es.lookup y
 | [] => by
  show List.lookup y [(x, v)] = _
  rw [List.lookup_cons]
  by_cases q : y = x
  ·rw [beq_iff_eq.mpr q, if_pos q]
  ·rw [beq_eq_false_iff_ne.mpr q, if_neg q]
 | (k, w) :: es => by
  unfold nput
  by_cases q : k = x
  ·subst q
   rw [if_pos rfl, List.lookup_cons, List.lookup_cons]
   by_cases z : y = k
   ·rw [beq_iff_eq.mpr z, if_pos z]
   ·rw [beq_eq_false_iff_ne.mpr z, if_neg z]
  ·rw [if_neg q, List.lookup_cons, List.lookup_cons, nput_lookup y]
   by_cases z : y = k
   ·subst z; rw [beq_self_eq_true, if_neg q, if_neg q]
   ·rw [beq_eq_false_iff_ne.mpr z]
theorem nput_length {x : Nat} {v : AV} : ∀ {es : List (Nat × AV)}, (nput es x v).length = es.length + if (es.lookup x).isSome then 0 else 1
 | [] => rfl
 | (k, w) :: es => by
  unfold nput
  by_cases q : k = x
  ·subst q; rw [if_pos rfl, List.lookup_cons, beq_self_eq_true]; rfl
  ·rw [if_neg q, List.lookup_cons, beq_eq_false_iff_ne.mpr fun z => q z.symm, List.length_cons, List.length_cons, nput_length, Nat.add_right_comm]
theorem set_oth {sl r : Array (Option Value)} {i j : Nat} {x u : Value} (n : i ≠ j) (e : (sl[j]?).join = some u) : ((sl ++ r).setIfInBounds i (some x))[j]?.join = (sl[j]?).join := by
 rw [Array.getElem?_setIfInBounds, if_neg n]
 have hlt : j < sl.size := by
  cases hq : sl[j]? with
  | none => rw [hq] at e; exact noS e
  | some z => exact (Array.getElem?_eq_some_iff.mp hq).1
 rw [Array.getElem?_append_left hlt]
theorem setattr_snd {x : Nat} {o v : AV} {u w : Value} {Q : Hp → Prop} {K : Shared → Prop} (G : Gd n C sc) (hx : x ∈ attrs) (q : setAttrA g.h Q o x v) (hu : VR g.α o u) (hv : VR g.α v w) (I : Inv C fr g) (k : KH C fr g Q K) : C.wp (setAttr u (nm x) w) (fun _ s' => K s') g.s := by
 have X := inK G.W I
 refine nsAt I fun m hn hm => ?_
 induction q with
 | @inst j d x v es o e l q =>
  refine VRef.casesOn hu fun {a} ha => instAt I o e ha fun dx ens nn hdx IA hod hsk hsz hr hr' => set_plain X IA (saF _ false) ?_
  obtain ⟨ens', n', e1, e2, e3, e4, e5⟩ := put_spec (nn := nn) (nm x) (PyData.keyHash C.w.params (nm x)) (g.s.toks + 1) w hsk
  have hlen : ens'.size ≤ (nput es x v).length := by
   rw [nput_length]
   cases hl : es.lookup x with
   | none => exact Nat.le_trans e4 (Nat.add_le_add_right hsz 1)
   | some v0 => exact One.casesOn (hr x v0 hl) fun u0 hu0 _ => Nat.le_trans (Nat.le_of_eq (e5 (by rw [hu0]; rfl))) (Nat.le_trans hsz (Nat.le_add_right _ _))
  refine ledTurn hod (fun z => I.locN (by rw [← z]; exact List.mem_of_getElem? hdx)) fun pre post N0 h1 h2 hN => osa_dict (s := { g.s with toks := g.s.toks + 1 }) (es := ens'.toList) (n := n') (fr_all hn) N0 X IA rfl (poF _ false) (by unfold takerIn; rw [show findIn _ (.ref cTS) (nm x) = _ from tsF _ hx]; rfl) (tsH _) (by rw [nameK _ _ _ hsk]; rfl) h1 h2 e1 (by simp) ?_ fun h' F' N' => ?_
  ·rw [Array.length_toList]
   refine Nat.le_trans hlen (Nat.le_trans (Nat.le_of_eq nput_length) ?_)
   exact Nat.le_trans (Nat.add_le_add_left (by split <;> decide : _ ≤ 1) _) l
  ·obtain ⟨hc, kp⟩ := hN h' _ N'
   refine I.turned (s' := { g.s with heap := h', toks := g.s.toks + 1 + 1 }) (o' := .ns (nput es x v)) e hdx nofun rfl trivial kp ⟨F'.ns, hm⟩ hc (.mk e2 hlen (fun y v' hy => ?_) fun name u' hn => ?_) fun I X => k ⟨g.α, _, { g.s with heap := h', toks := g.s.toks + 1 + 1 }⟩ q I X
   ·rw [nput_lookup] at hy
    rw [e3]
    by_cases hyx : y = x
    ·subst hyx; rw [if_pos rfl] at hy ⊢; cases hy; exact ⟨w, rfl, hv⟩
    ·rw [if_neg hyx] at hy; rw [if_neg fun z => hyx (nmI z)]; exact hr y v' hy
   ·rw [e3] at hn
    by_cases hnx : name = nm x
    ·exact hnx ▸ List.mem_map_of_mem hx
    ·rw [if_neg hnx] at hn; exact hr' name u' hn
 | @node j d x v a b c a' b' c' o ex en q =>
  refine VRef.casesOn hu fun {ad} ha => nodeAt I o ha fun dx sl hdx IA hr => set_plain X IA (saF _ true) ?_
  obtain ⟨f1, f2, f3, f4, f5⟩ := slotF C.w.params ex
  refine osa_descr (s := { g.s with toks := g.s.toks + 1 }) KF.slot_mset X IA (poF _ true) (by unfold takerIn; rw [f1]; simp only [Option.bind_some, f3]; rfl) f4 ?_
  refine ledTurn IA.at_ (fun z => I.locN (by rw [← z]; exact List.mem_of_getElem? ha)) fun pre post N0 h1 h2 hN => slot_set (s := { g.s with toks := g.s.toks + 1 }) (fr_all hn) N0 X IA f5 (slN_lt x) h1 h2 rfl rfl fun h' F' N' => ?_
  obtain ⟨hc, kp⟩ := hN h' _ N'
  refine I.turned (s' := { g.s with heap := h', toks := g.s.toks + 1 }) (o' := .node d a' b' c') o ha nofun rfl trivial kp ⟨F'.ns, hm⟩ hc (.mk hdx fun y v' hy => ?_) fun I X => k ⟨g.α, _, { g.s with heap := h', toks := g.s.toks + 1 }⟩ q I X
  rw [en] at hy
  by_cases hyx : y = x
  ·subst hyx; rw [if_pos rfl] at hy; cases hy
   exact ⟨w, by rw [Array.getElem?_setIfInBounds, if_pos rfl, if_pos (by simp; lia)]; rfl, hv⟩
  ·rw [if_neg hyx] at hy
   exact One.casesOn (hr y v' hy) fun u' q1 q2 => ⟨u', by rw [set_oth (fun z => hyx (slN_inj (nodeF_mem hy) ex z.symm)) q1]; exact q1, q2⟩
end
end Mine
namespace Mine
open PySem PySem.W PySem.Calls PyProof.Rows PyProof.V PySem.Spec PySem.SeqAt
open Builtin Builtin.ObjectAttr
theorem slot_li_ga : Slot "list_iterator" "__getattribute__" "object.__getattribute__" :=
 .of (owner := "object") (n := "__getattribute__") (by rw [typeLookup_type, builtinLookup_eq_fast]; kernel_rfl) (by decide +kernel) (by decide +kernel) (by decide +kernel)
  (by first | exact .inl (by decide +kernel) | exact .inr (by decide +kernel)) (by rw [isSubtype_type]; kernel_rfl)
theorem slot_wd_get : Slot "wrapper_descriptor" "__get__" "wrapper_descriptor.__get__" :=
 .of (owner := "wrapper_descriptor") (n := "__get__") (by rw [typeLookup_type, builtinLookup_eq_fast]; kernel_rfl) (by decide +kernel) (by decide +kernel) (by decide +kernel)
  (by first | exact .inl (by decide +kernel) | exact .inr (by decide +kernel)) (by rw [isSubtype_type]; kernel_rfl)
theorem type_li_next : typeOf (.builtin "list_iterator.__next__") = pure (.type "wrapper_descriptor") := by kernel_rfl
theorem takes_li_next : takesStores (.builtin "list_iterator.__next__") = pure false := by kernel_rfl
theorem args_ga (a b : Value) : argsOk "object.__getattribute__" ⟨[a, b], []⟩ := by unfold argsOk; kernel_rfl
theorem args_wdget (a b c : Value) : argsOk "wrapper_descriptor.__get__" ⟨[a, b, c], []⟩ := by unfold argsOk; kernel_rfl
theorem entry_ga : entryFor table "object.__getattribute__" = some Builtin.«object.__getattribute__» := entryFor_of_tree (by kernel_rfl)
theorem entry_wdget : entryFor table "wrapper_descriptor.__get__" = some Builtin.«wrapper_descriptor.__get__» := entryFor_of_tree (by kernel_rfl)
theorem sub_li : isSubtype (.type "list_iterator") (.type "list_iterator") = pure true := by rw [isSubtype_type]; kernel_rfl
theorem owner_li : ".".intercalate ("list_iterator.__next__".cutAt '.').dropLast = "list_iterator" := by decide +kernel
theorem meets_wdget (a : Addr) (d : Option Addr) (dat : Data) (sl : Array (Option Value)) : Meets (Builtin.«wrapper_descriptor.__get__» ⟨[.builtin "list_iterator.__next__", .ref a, .type "list_iterator"], []⟩)
  (fun A R s => s.heap.get? a = some ⟨.type "list_iterator", d, dat, sl⟩ ∧ R (.ok (.ret (.ref s.heap.objs.size))) { s with heap := s.heap.push { cls := .type "method-wrapper", data := .fields #[.builtin "list_iterator.__next__", .ref a] } }) :=
 Meets.of_wp fun prog w A R s hs => by
  obtain ⟨hp, g, dd, tk, os⟩ := s
  obtain ⟨hx, hs⟩ := hs
  have hT : (⟨hp, g, dd, tk, os⟩ : Shared).TypeIs (.ref a) "list_iterator" := ⟨_, hx, rfl⟩
  have f1 := sub_li
  unfold Builtin.«wrapper_descriptor.__get__»
  repeat (any_goals (first | assumption | wp_step))
  rw [owner_li]
  repeat (any_goals (first | assumption | wp_step))
  exact ⟨_, rfl, hs⟩
theorem meets_ga (a : Addr) (fs : Array Value) (sl : Array (Option Value)) (u : Tok) : Meets (Builtin.«object.__getattribute__» ⟨[.ref a, .str "__next__" u], []⟩)
  (fun A R s => s.heap.get? a = some ⟨.type "list_iterator", none, .fields fs, sl⟩ ∧ R (.ok (.ret (.ref s.heap.objs.size))) { s with heap := s.heap.push { cls := .type "method-wrapper", data := .fields #[.builtin "list_iterator.__next__", .ref a] } }) :=
 Meets.of_wp fun prog w A R s hs => by
  obtain ⟨hp, g, dd, tk, os⟩ := s
  obtain ⟨hx, hs⟩ := hs
  have hT : (⟨hp, g, dd, tk, os⟩ : Shared).TypeIs (.ref a) "list_iterator" := ⟨_, hx, rfl⟩
  have f1 := sub_li
  have f2 := slot_listiter_next.lookup
  have f3 := slot_wd_get.lookup
  have f4 := type_li_next
  have f5 := takes_li_next
  unfold Builtin.«object.__getattribute__»
  repeat (any_goals (first | assumption | ((with_reducible show wpAny _ _ (call (Value.builtin "wrapper_descriptor.__get__") _ _) _ _ _); refine call_meets slot_wd_get type_li_next entry_wdget (args_wdget _ _ _) (meets_wdget a none _ sl) ⟨hx, ?_⟩) | wp_step))
  exact wpAny_pure ⟨_, rfl, hs⟩
theorem getAttr_next {prog : Program} {w : World} {A : Around} {E : Value → Shared → Prop} {s : Shared} {a : Addr} {fs : Array Value} {sl : Array (Option Value)} {Q : Value → Shared → Prop}
  (hx : s.heap.get? a = some ⟨.type "list_iterator", none, .fields fs, sl⟩)
  (h : Q (.ref s.heap.objs.size) { s with heap := s.heap.push { cls := .type "method-wrapper", data := .fields #[.builtin "list_iterator.__next__", .ref a] }, toks := s.toks + 1 }) : wpAny (model prog w) A (getAttr (.ref a) "__next__" true) Q E s := by
 obtain ⟨hp, g, d, tk, os⟩ := s
 have hT : ∀ tk', (⟨hp, g, d, tk', os⟩ : Shared).TypeIs (.ref a) "list_iterator" := fun _ => ⟨_, hx, rfl⟩
 have f3 := slot_li_ga.lookup
 have f4 := slot_li_ga.bind (.ref a)
 unfold getAttr getAttrBy
 repeat (any_goals (first | assumption | exact hT _ | ((with_reducible show wpAny _ _ (call (Value.builtin "object.__getattribute__") _ _) _ _ _); refine call_meets slot_li_ga (hT _) entry_ga (args_ga _ _) (meets_ga a fs sl _) ⟨hx, ?_⟩) | wp_step))
 all_goals (show wpAny _ _ (handedOut (.ref _)) _ _ _; rw [handedOut_of rfl]; exact wpAny_pure h)
end Mine
namespace Mine
open PySem PySem.W PySem.Calls PyProof.Rows PyProof.V PySem.Spec PySem.SeqAt
section
variable {n : Nat} {C : Cx} {sc : Scope} {fr : Fm} {g : Sg} {Q : AV → Hp → Prop} {K : Value → Shared → Prop} {P : Prop} {pos : Pos}
theorem alone {o : AObj} (h : wk o = (0, 0)) (hz : SzOk o) : NewOk o := ⟨hz, congrArg Prod.snd h, by rw [h]; decide, by rw [h]; decide⟩
theorem getattr_snd {x : Nat} {o : AV} {u : Value} (G : Gd n C sc) (hx : x ∈ attrs) (q : getAttrA g.h Q o x) (hu : VR g.α o u) (I : Inv C fr g) (k : KE C fr g Q K) : C.wp (getAttr u (nm x) true) K g.s := by
 induction q with
 | inst o e ev q => exact VRef.casesOn hu fun ha => attr_snd G hx o e ev q ha I k
 | node o ev q => exact VRef.casesOn hu fun ha => nodeAttr_snd G o ev q ha I k
 | @next j l i o q =>
  refine VRef.casesOn hu fun {a} ha => obAt I o ha fun c hc r => OIter.casesOn r fun {la} e c1 c2 c3 => ?_
  obtain ⟨cc, cd, cdat, csl⟩ := c
  subst c1 c2 c3
  exact getAttr_next (s := g.s) (a := a) hc (k.push I q (.mk (pre_get (List.prefix_append _ _) ha) rfl rfl) (alone rfl trivial))
noncomputable def PlainBase (e : Expr) : Prop := ∀ name env whole, attributeBase e name env whole = whole
theorem eval_attr {e : Expr} {name : Str} {env : Env} : eval (.Attribute e name pos) env = (do
  let o ← attributeBase e name env (eval e env)
  standAt pos.atName
  let r ← holding [o] (getAttr o name true)
  letTemporaryGo e o r
  pure r) := rfl
theorem sE_attr {e : Expr} {name : Str} {o : IExpr} {x : Nat} (hn : name = nm x) (hx : x ∈ attrs) (hb : PlainBase e) (co : Ok sc e o) : Ok sc (.Attribute e name pos) (.attr o x) := okX (fun _ _ => rfl) (fun _ => rfl) fun {n C fr g Q K} G q I k => by
 subst hn
 show wpAny C.M C.A (eval (.Attribute e (nm x) pos) C.env) K FF g.s
 rw [eval_attr, hb]
 exact wpAny_bind (co.ev G q I fun u y g₁ q hu I X => wpAny_bind (wpAny_standAt (wpAny_bind (wpAny_holding (getattr_snd (K := fun r s => _) G hx q hu I fun v y g₂ q hv I Y => wpAny_bind (wpAny_letTemporaryGo (wpAny_pure (k v y g₂ q hv I (X.trans Y)))))))))
theorem getList {m : Nat} {a : Addr} {vs : Array Value} {nn : Nat} {pl : Sem Bool} {K : Value × List Value → Shared → Prop} (l : m ≤ 5) (hl : g.s.heap.get? a = some ⟨.type "list", none, .seq vs nn, #[]⟩) (k : K (.builtin (methId m), [.ref a]) g.s) : C.wp (getMethod (.ref a) (nm m) pl) K g.s := by
 have T : g.s.TypeIs (.ref a) "list" := ⟨_, hl, rfl⟩
 have hd : ∀ b, Value.ref a = .ref b → ∃ o, g.s.heap.get? b = some o ∧ o.dict = none := fun b e => by cases e; exact ⟨_, hl, rfl⟩
 match m, l, k with
 | 0, _, k => exact getMethod_builtin (name := "append") T F.plainAttrs_list F.slot_list_append F.type_list_append hd k
 | 1, _, k => exact getMethod_builtin (name := "extend") T F.plainAttrs_list F.slot_list_extend F.type_list_extend hd k
 | 2, _, k => exact getMethod_builtin (name := "pop") T F.plainAttrs_list F.slot_list_pop F.type_list_pop hd k
 | 3, _, k => exact getMethod_builtin (name := "insert") T F.plainAttrs_list F.slot_list_insert F.type_list_insert hd k
 | 4, _, k => exact getMethod_builtin (name := "clear") T F.plainAttrs_list F.slot_list_clear F.type_list_clear hd k
 | 5, _, k => exact getMethod_builtin (name := "index") T F.plainAttrs_list F.slot_list_index F.type_list_index hd k
 | m + 6, l, _ => exact absurd l (Nat.not_le.mpr (Nat.le_add_left _ _))
theorem eval_meth {e : Expr} {name : Str} {apos : Pos} {args : List Expr} {env : Env} : eval (.Call (.Attribute e name apos) args [] pos) env =
  (do let ov ← attributeBase e name env (eval e env); standAt apos.atName; methodCall e name apos pos env ov (args.length + 0) (backTo pos (starEach args env)) []) := rfl
theorem shadow_ok {k d m j : Nat} {a : Addr} (I : Inv C fr g) (ho : g.h[k]? = some (.inst d)) (ha : g.α[k]? = some a) (hm : prog.meths.lookup m = some j) (K : ∀ dx od, PySem.W.InstAt g.s.heap a (instObj cTS dx) cTS (some od) → lookIn (nm m) od = some none → P) : P :=
 (I.sim.wf.nsAt ho).elim fun es hd => instAt I ho hd ha fun dx ens nn _ IA _ hsk _ _ hr' => K dx _ IA ((nameK _ _ _ hsk).trans (congrArg some (by
  cases e : nsFind ens (nm m) with
  | none => rfl
  | some u => exact (List.mem_map.mp (hr' _ u e)).elim fun x z => absurd (nmI z.2 ▸ z.1) (tsM C.w.params hm).2.2.2.2.2.1)))
end
end Mine
namespace Mine
open PySem PySem.W PySem.Calls PyProof.Rows PyProof.V PySem.Spec PySem.SeqAt
section
variable {n : Nat} {C : Cx} {sc : Scope} {fr : Fm} {g : Sg} {Q : AV → Hp → Prop} {K : Value → Shared → Prop} {P : Prop} {pos apos : Pos} {e : Expr} {name : Str} {args : List Expr} {o : IExpr} {m : Nat} {as st : List IExpr} {a : Addr}
theorem callPos {env : Env} {b : Bool} (hl : apos.endLine = pos.line) : methodCallPos b e env apos pos = pure pos := by
 unfold methodCallPos
 rw [if_pos (by rw [hl]; simp)]
theorem few {env : Env} (hlen : args.length ≤ 20) (h : (backTo pos (starEach args env)).all (!·.1) = true) : methodCallForm (args.length + 0) (backTo pos (starEach args env)) [] = true := by
 unfold methodCallForm
 rw [h]
 simp
 lia
theorem meth_bi {j : Nat} (G : Gd n C sc) (hlen : args.length ≤ 20) (hline : apos.endLine = pos.line) (ca : LR (Ok sc) args as) (hg : ∀ {pl : Sem Bool} {K : Value × List Value → Shared → Prop}, K (.builtin (methId m), [.ref a]) g.s → C.wp (getMethod (.ref a) (nm m) pl) K g.s)
  (ha : g.α[j]? = some a) (q : evs (go n) as fr g.h fun vs h => bmeth h j Q m vs) (I : Inv C fr g) (k : KE C fr g Q K) : C.wp (methodCall e (nm m) apos pos C.env (.ref a) (args.length + 0) (backTo pos (starEach args C.env)) []) K g.s := by
 have pa := plain_any (pos := pos) ca C.env
 unfold Cx.wp methodCall
 rw [few hlen pa.2]
 refine wpAny_bind (wpAny_holding ?_)
 show C.wp (getMethod (.ref a) (nm m) _) _ _
 refine hg ?_
 dsimp only
 rw [callPos hline]
 refine wpAny_bind (wpAny_pure (callWith_of (P := fun _ => True) (by rw [pa.1]; rfl) (fun h' _ => ⟨.machine, .inr (.inl rfl), Looks.now⟩) ?_))
 exact args_snd (kws := []) (ks := []) (Q := fun xs ks h => ks = [] ∧ bmeth h j Q m xs) ca .nil G (evs_mono q fun _ _ z => ⟨rfl, z⟩) I fun ar xs ks g₁ q hvs hks I X => ⟨trivial, by
  obtain ⟨pos, kw⟩ := ar
  obtain ⟨rfl, q⟩ := q
  exact hks.n (C := fun kw => wpAny C.M C.A (call (.builtin (methId m)) (.ref a :: pos) kw) K FF g₁.s) (bmeth_snd G.W q (pre_get X.pre ha) hvs I (k.up X))⟩
theorem meth_own {k d j : Nat} (G : Gd n C sc) (hlen : args.length ≤ 20) (hline : apos.endLine = pos.line) (ca : CA sc args as st) (ho : g.h[k]? = some (.inst d)) (ha : g.α[k]? = some a) (hj : prog.meths.lookup m = some j)
  (q : evs (go n) as fr g.h fun vs h => stars (go n) st fr h fun ws h => (go n).cl (.fn j) (.ref k :: (vs ++ ws)) [] h Q) (I : Inv C fr g) (K' : KE C fr g Q K) : C.wp (methodCall e (nm m) apos pos C.env (.ref a) (args.length + 0) (backTo pos (starEach args C.env)) []) K g.s := by
 obtain ⟨f1, f2, f3, f4, f5, f6, f7, f8⟩ := tsM C.w.params hj
 have X := inK G.W I
 have fin : ∀ {vs xs g₁}, (go n).cl (.fn j) (.ref k :: xs) [] g₁.h Q → LR (VR g₁.α) xs vs → Inv C fr g₁ → Ext C g g₁ → ∀ {K₂ : Value → Shared → Prop}, (∀ v s, K v s → K₂ v s) → codeAny C.M C.A (.call (.ref (fad j)) ⟨.ref a :: vs, []⟩) (wants K₂ FF) g₁.s := fun {vs xs g₁} q hvs I Y {K₂} hK =>
  G.S n (Nat.le_refl n) (env := C.env) (R := wants K₂ FF) G.A (kindE G.E) q I rfl (.cons (.mk (pre_get Y.pre ha)) hvs) .nil fun v x g' q hv I Z => hK _ _ (K' v x g' q hv I (Y.trans Z))
 refine shadow_ok I ho ha hj fun dx od IA hlk => ?_
 unfold Cx.wp methodCall
 by_cases hs : st = []
 ·have pa := plain_any (pos := pos) (ca.plain hs) C.env
  rw [few hlen pa.2]
  refine wpAny_bind (wpAny_holding ?_)
  show wpAny C.M C.A (getMethod (.ref a) (nm m) _) _ _ _
  refine method_fn X IA (gaF _ false) (ggF _ false) f1 f2 (by show (lookIn (nm m) od).map _ = _; rw [hlk]; rfl) ?_
  dsimp only
  rw [callPos hline]
  refine wpAny_bind (wpAny_pure (callWith_of (P := fun h => (kf C.w.params).In h) (by rw [pa.1]; rfl) (fun h' X' => keeps_K (K := kf C.w.params) f8 h' X') ?_))
  exact argsS_snd (Q := fun vs h => (go n).cl (.fn j) (.ref k :: vs) [] h Q) ca G q I fun vs xs g₁ q hvs I Y => ⟨inK G.W I, wpAny_call (fin q hvs I Y fun _ _ z => z)⟩
 ·have pa := star_any (pos := pos) ca C.env hs
  have hfew : methodCallForm (args.length + 0) (backTo pos (starEach args C.env)) [] = false := by
   unfold methodCallForm
   rw [pa.2]; rfl
  rw [hfew]
  refine wpAny_bind (wpAny_holding ?_)
  show wpAny C.M C.A (do pure (← getAttr (.ref a) (nm m) true, [])) _ _ _
  have hfo : findObj (kf C.w.params) cTS (some od) (nm m) = some (.bind (.builtin "function.__get__") (.ref (fad j))) := by
   obtain ⟨cd, hc, hh⟩ := any_some (tsH C.w.params)
   unfold findObj
   rw [hc, f1]
   simp only [Option.bind_some, f3, f4, PySem.W.ownOf, hh, if_true, hlk, f7, Bool.false_and, Bool.false_eq_true, if_false]
  refine wpAny_bind (get_bind X IA (gaF _ false) hfo (ggF _ false) ?_)
  refine wpAny_call (fn_get (s := { g.s with toks := g.s.toks + 1 }) X f2 ?_)
  show wpAny _ _ (handedOut _) _ _ _
  rw [handedOut_of rfl]
  refine wpAny_pure (wpAny_pure ?_)
  dsimp only
  rw [callPos hline]
  refine wpAny_bind (wpAny_pure ?_)
  have kp : ∀ b o, g.s.heap.get? b = some o → (g.s.heap.push (methodObj (.ref (fad j)) (.ref a))).get? b = some o := fun b o e => Heap.get?_push_of_some _ e
  have hq : (g.s.heap.push (methodObj (.ref (fad j)) (.ref a))).get? g.s.heap.objs.size = some (methodObj (.ref (fad j)) (.ref a)) := Heap.get?_push_size _ rfl
  have fz := InvH.free I (fresh_size g.s.heap)
  refine ks_call (P := fun h => MethP (kf C.w.params) g.s.heap.objs.size (fad j) (.ref a) h) pa.1 (fun h' X' => keeps_M f5 h' X') ?_
  exact argsS_snd (g := ⟨g.α, g.h, { g.s with heap := g.s.heap.push (methodObj (.ref (fad j)) (.ref a)), toks := g.s.toks + 1 }⟩) (Q := fun vs h => (go n).cl (.fn j) (.ref k :: vs) [] h Q) ca G q (InvH.keeps I kp) fun vs xs g₁ q hvs I Y => by
   have hq2 := Y.keep fz.α (fun z => fz.L (List.mem_singleton.mp z)) fz.T fz.F hq
   exact ⟨⟨hq2, inK G.W I⟩, wpAny_call (method_call hq2 (fin q hvs I (ExtX.trans (ExtX.keeps kp) Y) fun _ _ z => z))⟩
theorem sE_meth (hn : name = nm m) (hb : PlainBase e) (hlen : args.length ≤ 20) (hline : apos.endLine = pos.line) (co : Ok sc e o) (ca : CA sc args as st) : Ok sc (.Call (.Attribute e name apos) args [] pos) (.meth o m as st) := okX (fun _ _ => rfl) (fun _ => rfl) fun {n C fr g Q K} G q I k => by
 subst hn
 show wpAny C.M C.A (eval (.Call (.Attribute e (nm m) apos) args [] pos) C.env) K FF g.s
 rw [eval_meth, hb]
 refine wpAny_bind (co.ev G q I fun u y g₁ q hu I X => wpAny_bind (wpAny_standAt ?_))
 induction q with
 | own o e q => exact VRef.casesOn hu fun ha => meth_own G hlen hline ca o ha e q I (k.up X)
 | biL o l es q => exact VRef.casesOn hu fun ha => listAt I o ha fun vs nn hl _ _ _ => meth_bi G hlen hline (ca.plain es) (fun z => getList l hl z) ha q I (k.up X)
 | biD o l es q =>
  subst l
  exact VRef.casesOn hu fun ha => dictAt I o ha fun kvs hd _ _ => meth_bi G hlen hline (ca.plain es) (fun z => getMethod_builtin (name := "get") hd.dictOf.typeIs F.plainAttrs_dict F.slot_dict_get F.type_dict_get hd.dictOf.mapOf.noDict z) ha q I (k.up X)
 | biS o l es q =>
  subst l
  exact VRef.casesOn hu fun ha => meth_bi G hlen hline (ca.plain es) (fun z => getMethod_set_add (setAt I o ha) z) ha q I (k.up X)
end
end Mine
namespace Mine
open PySem PySem.W PySem.Calls PyProof.Rows PyProof.V PySem.Spec PySem.SeqAt
theorem kind_iter : builtinKind "iter" = none := by decide +kernel
theorem plain_iter : plainId "iter" = true := by decide +kernel
theorem entry_iter : entryFor table "iter" = some Builtin.«iter» := entryFor_of_tree (by kernel_rfl)
theorem args_iter (a : Value) : argsOk "iter" ⟨[a], []⟩ := by unfold argsOk; kernel_rfl
theorem meets_bool_list (l : Addr) (items : Array Value) (hfit : (items.size : Int) < 2 ^ 63) : Meets (Builtin.«bool.__new__» ⟨[.type "bool", .ref l], []⟩) (fun _ R s => s.heap.IsList l items ∧ R (.ok (.ret (.bool (!items.isEmpty)))) { s with toks := s.toks + 1 + 1 }) :=
 fun prog w A R s hs => by
  obtain ⟨hp, g, d, tk, os⟩ := s
  obtain ⟨hl, hs⟩ := hs
  have f1 := F.conv_sub_bool
  unfold Builtin.«bool.__new__»
  refine wpAny_bind (wpAny_pure ?_)
  try dsimp only
  refine wpAny_bind (wpAny_of_eq f1 ?_)
  rw [if_neg (by decide)]
  refine wpAny_bind (wpAny_pure ?_)
  refine wpAny_bind (wpAny_truthy_list hl hfit (wpAny_pure hs))
section
variable {n : Nat} {C : Cx} {sc : Scope} {fr : Fm} {g : Sg} {Q : AV → Hp → Prop} {K : Value → Shared → Prop} {P : Prop} {pos : Pos}
theorem ints_rel {α : List Addr} {vs : List Value} {ns : List Int} (h : IntsAre vs ns) : LR (VR α) (ns.map AV.int) vs := by
 induction h with
 | nil => exact .nil
 | cons k t r ih => exact .cons vint ih
theorem vint_eq {a b : Int} {t : Tok} (h : a = b) : VInt a (.int b t) := h ▸ .mk
theorem fitSz {m : Nat} (h : m ≤ 200000) : (m : Int) < 2 ^ 63 := Int.lt_of_le_of_lt (Int.ofNat_le.mpr h) (by decide)
noncomputable def primG : Pr → GV
 | .len => .bi "len" | .list => .ty "list" | .tuple => .ty "tuple" | .bool => .ty "bool" | .abs => .bi "abs" | .sum => .bi "sum"
 | .max => .bi "max" | .min => .bi "min" | .min2 => .bi "min" | .sorted => .bi "sorted" | .set0 => .ty "set" | .iter => .bi "iter" | .listRange => .ty "list"
noncomputable def valG : GV → Value
 | .bi s => .builtin s
 | .ty s => .type s
 | _ => .none
theorem newSeq (k : KE C fr g Q K) {xs : List AV} {us : Array Value} {h' : Heap} {a : Addr} {m tk : Nat} (I : Inv C fr g) (kp : ∀ b o, g.s.heap.get? b = some o → h'.get? b = some o) (ha : g.s.heap.get? a = none) (hn : h'.get? a = some ⟨.type "list", none, .seq us m, #[]⟩) (q : Q (.ref g.h.length) (g.h ++ [.list xs]))
  (hr : LR (VR g.α) xs us.toList) (hz : xs.length ≤ 200000) : K (.ref a) { g.s with heap := h', toks := tk } := k.newK (s' := { g.s with heap := h', toks := tk }) I kp ha hn q (.mk (VR.monoL (List.prefix_append _ _) hr)) (newList hz)
theorem ledSame (k : KE C fr g Q K) {x : AV} {v : Value} {h' : Heap} {tk : Nat} {m : Str → Option Value} (I : Inv C fr g) (hm : ∀ x v, fr.loc x = some v → One (m (nm x)) (VR g.α v)) (F : Fr noHeap C.L h' m) (N : News noHeap C.L h' (liveAll g.s.heap C.L)) (q : Q x g.h) (hv : VR g.α x v) : K v { g.s with heap := h', toks := tk } :=
 have kp := kept_all N fun p hp => hp
 k v x ⟨g.α, g.h, { g.s with heap := h', toks := tk }⟩ q hv (InvH.own I kp ⟨F.ns, hm⟩) (Ext.own I (List.prefix_refl _) (fun _ h => .inl h) kp ⟨F.ns, hm⟩)
theorem prim_snd {p : Pr} {as : List AV} {vs : List Value} (G : Gd n C sc) (hp : p ≠ .listRange) (q : prim g.h Q p as) (hr : LR (VR g.α) as vs) (I : Inv C fr g) (k : KE C fr g Q K) : C.wp (call (valG (primG p)) vs) K g.s := by
 induction q with
 | len xs e q => exact hr.c1 fun y hy => seqAt I e hy fun a us hl hru hlen hz => hl.elim (fun hl => call_len_list hl (fitSz (hlen ▸ hz)) (k.same I q (hlen ▸ vint))) fun hl => PyProof.Rows.len_tuple hl (fitSz (hlen ▸ hz)) (k.same I q (hlen ▸ vint))
 | list xs e l q =>
  refine hr.c1 fun y hy => seqAt I e hy fun a us hl hru hlen hz => ?_
  have key : ∀ {T : String} {o : Obj} {nn : Nat}, (T = "list" ∨ T = "tuple") → g.s.heap.get? a = some o → o.cls = .type T → o.data = .seq us nn → C.wp (call (.type "list") [.ref a]) K g.s := fun hT ho hc hd =>
   call_list_seq a hT ho hc hd (fun h' c' hk hn => newSeq k (tk := g.s.toks) I hk (fresh_size _) hn q hru hz) (sz_le (hlen ▸ hz))
  exact hl.elim (fun hl => hl.elim fun o z => z.2.2.elim fun m hd => key (.inl rfl) z.1 z.2.1 hd) fun hl => hl.elim fun o z => z.2.2.elim fun m hd => key (.inr rfl) z.1 z.2.1 hd
 | tuple xs e l q =>
  refine hr.c1 fun y hy => VRef.casesOn hy fun ha => listAt I e ha fun us m hl hru hlen hz => call_tuple_list (isList_of hl) (fun h' hk => ?_) (sz_le (hlen ▸ hz))
  have h0 : g.s.heap.get? h'.objs.size = none := by
   cases z : g.s.heap.get? h'.objs.size with
   | none => rfl
   | some o => exact some_ne (hk _ _ z) (fresh_size _)
  exact k.newK (s' := { g.s with heap := h'.push { cls := .type "tuple", data := .seq us } }) I (fun b o e => Heap.get?_push_of_some _ (hk b o e)) h0 (Heap.get?_push_size _ rfl) q (.mk (VR.monoL (List.prefix_append _ _) hru)) (newTup hz)
 | bool xs e q => exact hr.c1 fun y hy => VRef.casesOn hy fun ha => listAt I e ha fun us m hl hru hlen hz => call_bool_1 (meets_bool_list _ us (fitSz (hlen ▸ hz))) ⟨isList_of hl, ⟨rfl, k.same I q (congrArg Value.bool (congrArg Bool.not ((hru.isEmpty).trans (by simp))))⟩⟩
 | abs q => exact hr.c1 fun y hy => VInt.casesOn hy (call_abs_int fun u tk => k.same I q (by split <;> exact vint_eq (by lia)))
 | sum xs e q =>
  refine hr.c1 fun y hy => lintsAt I e hy fun a us hl hi => ?_
  obtain ⟨zs, ez⟩ := hi.allInts.items
  rw [ez] at hl
  refine sum_intListG G.A.handled hl fun h' tk t' hk => k.grown I q ?_ hk
  have h1 := nums_intItems zs
  rw [← ez] at h1
  have h2 : numsOf us = xs := hi.numsOf
  rw [preSum_eq, List.take_of_length_le (by simp), ← h1]
  exact (show (numsOf us).sum = xs.sum by rw [h2]) ▸ vint
 | max xs e hne q => exact hr.c1 fun y hy => lintsAt I e hy fun a us hl hi => nsAt I fun m hn hm => max_list_N G.A.handled (fr_all hn) (news_all _ _) hl hi (List.length_pos_iff.mpr hne) fun h' M t tk F' N' hM1 hM2 => ledSame k I hm F' N' (q M hM1 hM2) vint
 | min xs e hne q => exact hr.c1 fun y hy => lintsAt I e hy fun a us hl hi => nsAt I fun m hn hm => min_list_N G.A.handled (fr_all hn) (news_all _ _) hl hi (List.length_pos_iff.mpr hne) fun h' M t tk F' N' hM1 hM2 => ledSame k I hm F' N' (q M hM1 hM2) vint
 | min2 q =>
  refine hr.c fun y r hy ht => VInt.casesOn hy (ht.c1 fun y2 hy2 => VInt.casesOn hy2 (min_two_ints G.A.handled fun h' tk hk => k.grown I q ?_ hk))
  split
  ·rw [Int.min_eq_right (by lia)]; exact vint
  ·rw [Int.min_eq_left (by lia)]; exact vint
 | sorted xs e hlt q =>
  refine hr.c1 fun y hy => lintsAt I e hy fun a us hl hi => nsAt I fun m hn hm => sorted_N (fr_all hn) (news_all _ _) hl hi (by rw [hi.length]; exact hlt) fun h' vs' ns' ep F' N' hi' hp hs => ?_
  exact k.led (tk := g.s.toks) I hm F' N' (fun _ x => x) (Heap.get?_none_of_le (Nat.le_succ _)) (q ns' hp hs) (.mk (by simpa using ints_rel hi')) (newList (by rw [List.length_map, hp.length_eq]; exact Nat.le_trans (Nat.le_of_lt hlt) (by decide)))
 | set0 q => exact hr.n (call_set_0 fun led => k.push (tk := g.s.toks) I q ⟨⟨⟨rfl, rfl, rfl⟩, #[], 0, _, rfl, fun e he => (by simp at he), fun k => (by simp), rfl, rfl⟩, by decide⟩ (alone rfl trivial))
 | iter xs e q =>
  refine hr.c1 fun y hy => VRef.casesOn hy fun ha => listAt I e ha fun us m hl hru hlen hz => call_function_tree kind_iter plain_iter entry_iter (args_iter _) ?_
  unfold Builtin.«iter»
  exact wpAny_bind (wpAny_pure (wpAny_bind (wpAny_pyIter_list (isList_of hl) (wpAny_pure (k.push (tk := g.s.toks) I q (.mk (pre_get (List.prefix_append _ _) ha) rfl rfl rfl) (alone rfl trivial))))))
 | listRange => exact absurd rfl hp
theorem gvalG {p : Pr} {u : Value} (h : gval (primG p) u) : valG (primG p) = u := by cases p <;> exact h
theorem looksG {p : Pr} {M : Model} {h : Heap} : Looks M h (keeperOf (valG (primG p))) .machine := by cases p <;> exact Looks.now
theorem sE_prim {id : Str} {p : Pos} {args : List Expr} {pr : Pr} {as : List IExpr} (hg : IsGlo sc id (primG pr)) (hp : pr ≠ .listRange) (ca : LR (Ok sc) args as) : Ok sc (.Call (.Name id p) args [] pos) (.prim pr as) := okX (fun _ _ => rfl) (fun _ => rfl) fun {n C fr g Q K} G q I k => by
 refine wpAny_Call_NameR (wpAny_Name (load_glo G.W G.E hg I fun u hu => ?_) hg.2)
 rw [← gvalG hu]
 exact callWith_of (P := fun _ => True) (by rw [(plain_any ca _).1]; rfl) (fun h' _ => ⟨.machine, .inr (.inl rfl), looksG⟩) (args_snd (kws := []) (ks := []) (Q := fun xs ks h => ks = [] ∧ prim h Q pr xs) ca .nil G (evs_mono q fun _ _ z => ⟨rfl, z⟩) I fun ar xs ks g₁ q hvs hks I X => ⟨trivial, by
  obtain ⟨pos, kw⟩ := ar
  obtain ⟨rfl, q⟩ := q
  exact hks.n (C := fun kw => wpAny C.M C.A (call (valG (primG pr)) pos kw) K FF g₁.s) (prim_snd G hp q hvs I (k.up X))⟩)
noncomputable def Callable (f : AV) (h : Hp) : Prop := match f with
 | .fn k => ∃ f, prog.fns[k]? = some f ∧ f.isDef = true
 | .ref k => ∃ j cs, h[k]? = some (.clos j cs)
 | .cls _ => True
 | _ => False
theorem callable {f : AV} {as : List AV} {kw : List (Nat × AV)} {h : Hp} {Q : AV → Hp → Prop} (q : (go n).cl f as kw h Q) : Callable f h := by
 induction n with
 | zero => exact q.elim
 | succ n => exact MonE.casesOn q fun R q _ => clStep.casesOn q (fun e d _ => ⟨_, e, d⟩) (fun o _ _ _ => ⟨_, _, o⟩) (fun _ => trivial) fun _ => trivial
theorem keeper_snd {f : AV} {fv : Value} (W : WdH C.B C.w C.mg C.mb) (hc : Callable f g.h) (hv : VR g.α f fv) (I : Inv C fr g) : ∃ k, (k = Keeper.frame ∨ k = Keeper.machine ∨ k = Keeper.boundFrame) ∧ Looks C.M g.s.heap (keeperOf fv) k := by
 induction f with
 | fn k => exact hc.elim fun f z => hv ▸ keeps_K (fnKeep _ z.1 z.2) _ (inK W I)
 | cls b => exact hv ▸ keeps_K (clKeep _ b) _ (inK W I)
 | ref k => exact hc.elim fun j hc => hc.elim fun cs hk => VRef.casesOn hv fun {a} ha => obAt I hk ha fun c hc r => OClos.casesOn (motive := fun c _ => g.s.heap.get? a = some c → _) r (fun _ _ _ _ hc => ⟨.frame, .inl rfl, by unfold keeperOf; exact Looks.andThen (Looks.ld hc) Looks.now⟩) hc
 | _ => exact hc.elim
theorem sE_call {id : Str} {p : Pos} {args : List Expr} {kws : List Keyword} {f : IExpr} {as st : List IExpr} {ks : List (Nat × IExpr)} (cf : Ok sc (.Name id p) f) (ca : LR (Ok sc) args as) (ck : LR (KwR sc) kws ks) : Ok sc (.Call (.Name id p) args kws pos) (.call f as st (ks.map (·.1)) (ks.map (·.2))) := okX (fun _ _ => rfl) (fun _ => rfl) fun {n C fr g Q K} G q I k => by
 show C.wp (do callWith pos (← eval (.Name id p) C.env) [] (backTo pos (starEach args C.env)) (backToKw pos (keywordEach kws C.env))) K g.s
 exact wpAny_bind (cf.ev G q I fun fv x g₁ q hv I X => callWith_of (P := fun h' => ∃ k, (k = Keeper.frame ∨ k = Keeper.machine ∨ k = Keeper.boundFrame) ∧ Looks C.M h' (keeperOf fv) k) (by rw [(plain_any ca _).1, (kws_some ck _).2.1]; rfl) (fun _ z => z)
  (args_snd (Q := fun xs ks h => (go n).cl x xs ks h Q) ca ck G q I fun ar xs ks g₂ q hvs hks I Y => ⟨keeper_snd G.W (callable q) (hv.mono Y.pre) I, wpAny_call (G.S n (Nat.le_refl n) (env := C.env) (R := wants K FF) G.A (kindE G.E) q I (hv.mono Y.pre) hvs hks (k.up (X.trans Y)))⟩))
end
end Mine
namespace Mine
open PySem PySem.W PySem.Calls PyProof.Rows PyProof.V PySem.Spec PySem.SeqAt
theorem fits_long {i : Int} (h0 : -200000 ≤ i) (h1 : i ≤ 200000) : Builtin.Range.rangeFitsLong i = true := by
 unfold Builtin.Range.rangeFitsLong
 simp
 lia
theorem range_size2 {a b : Int} : Builtin.Range.rangeSize a b 1 = ((b - a).toNat : Int) := by
 unfold Builtin.Range.rangeSize
 rw [if_pos (by decide)]
 split <;> lia
theorem range_small {a b : Int} (ha : -100000 ≤ a ∧ a ≤ 100000) (hb : -100000 ≤ b ∧ b ≤ 100000) : Builtin.Range.small a b 1 = true := by
 unfold Builtin.Range.small
 have h0 := @range_size2 a b
 simp [fits_long (i := a) (by lia) (by lia), fits_long (i := b) (by lia) (by lia), fits_long (i := 1) (by lia) (by lia), fits_long (i := Builtin.Range.rangeSize a b 1) (by lia) (by lia)]
 try (right; exact fits_long (by lia) (by lia))
section
variable {n : Nat} {C : Cx} {sc : Scope} {fr : Fm} {g : Sg} {Q : AV → Hp → Prop} {K : Value → Shared → Prop} {P : Prop} {pos : Pos}
theorem one_arg {fv : Value} {e : Expr} {env : Env} {A : Around} {M : Model} {s : Shared} {K : Args → Shared → Prop} (hs : NoStar e) (hh : wpAny M A (eval e env) (fun v s' => K ⟨[v], []⟩ s') FF s) : wpAny M A (evalArgs fv true (backTo pos (starEach [e] env)) []) K FF s := by
 have := wpAny_items_cons (M := M) (A := A) (E := FF) (s := s) (pos := pos) (e := e) (rest := []) (env := env) (Q := fun vs s' => K ⟨vs, []⟩ s') (wpAny_mono hh (fun v s₁ h₁ => wpAny_items_nil h₁) fun _ _ z => z) (hs _ _)
 rw [hs] at this ⊢
 exact evalArgs_plain this
theorem call_ty {id : Str} {T : String} {p : Pos} {args : List Expr} {as : List IExpr} {Q : List AV → Hp → Prop} (hg : IsGlo sc id (.ty T)) (ca : LR (Ok sc) args as) (G : Gd n C sc) (q : evs (go n) as fr g.h Q) (I : Inv C fr g)
  (k : KL C fr g Q fun vs s => C.wp (call (.type T) vs) K s) : C.wp (eval (.Call (.Name id p) args [] pos) C.env) K g.s := by
 refine wpAny_Call_NameR (wpAny_Name (load_glo G.W G.E hg I fun u hu => ?_) hg.2)
 obtain rfl := hu
 exact callWith_of (P := fun _ => True) (by rw [(plain_any ca _).1]; rfl) (fun h' _ => ⟨.machine, .inr (.inl rfl), Looks.now⟩) (args_snd (kws := []) (ks := []) (Q := fun xs ks h => ks = [] ∧ Q xs h) ca .nil G (evs_mono q fun _ _ z => ⟨rfl, z⟩) I fun ar xs ks g₁ q hvs hks I X => ⟨trivial, by
  obtain ⟨pos, kw⟩ := ar
  obtain ⟨rfl, q⟩ := q
  exact hks.n (C := fun kw => wpAny C.M C.A (call (.type T) pos kw) K FF g₁.s) (k pos xs g₁ q hvs I X)⟩)
theorem evs1 {a : IExpr} {h : Hp} {Q : AV → Hp → Prop} (q : (go n).ev a fr h Q) : evs (go n) [a] fr h fun vs h => ∃ v, vs = [v] ∧ Q v h := ev_mono q fun v h z => ⟨v, rfl, z⟩
theorem evs2 {a b : IExpr} {h : Hp} {Q : AV → AV → Hp → Prop} (q : (go n).ev a fr h fun u h => (go n).ev b fr h fun v h => Q u v h) : evs (go n) [a, b] fr h fun vs h => ∃ u v, vs = [u, v] ∧ Q u v h := ev_mono q fun u h z => ev_mono z fun v h z => ⟨u, v, rfl, z⟩
theorem sE_listRange {id id' : Str} {p p' pos' : Pos} {e : Expr} {a : IExpr} (hg : IsGlo sc id (.ty "list")) (hg' : IsGlo sc id' (.ty "range")) (ce : Ok sc e a) : Ok sc (.Call (.Name id p) [.Call (.Name id' p') [e] [] pos'] [] pos) (.prim .listRange [a]) := okX (fun _ _ => rfl) (fun _ => rfl) fun {n C fr g Q K} G q I k => by
 refine wpAny_Call_NameR (wpAny_Name (load_glo G.W G.E hg I fun u hu => ?_) hg.2)
 obtain rfl := hu
 refine callWith_of (P := fun _ => True) rfl (fun h' _ => ⟨.machine, .inr (.inl rfl), Looks.now⟩) (one_arg (fun _ _ => rfl) (call_ty (Q := fun vs h => prim h Q .listRange vs) hg' (.one ce) G q I fun vs xs g₁ q hvs I X => ?_))
 generalize hpr : Pr.listRange = pr at q
 induction q with
 | @listRange m l l' q =>
  refine hvs.c1 fun y hy => VInt.casesOn hy fun {t} => call_range_1 ⟨trivial, ?_⟩
  have kp : ∀ b o, g₁.s.heap.get? b = some o → (g₁.s.heap.push { cls := .type "range", data := .fields #[.int 0 g₁.s.toks, .int m t, .int 1 (g₁.s.toks + 1)] }).get? b = some o := fun b o e => Heap.get?_push_of_some _ e
  refine call_list_range G.A.handled (n := m.toNat) (Heap.get?_push_size _ rfl) (range_small (by lia) (by lia)) (range_size2.trans (by simp)) (by lia) fun h' tk acc c hk hn hi => ?_
  refine newSeq (g := ⟨g₁.α, g₁.h, { g₁.s with heap := g₁.s.heap.push { cls := .type "range", data := .fields #[.int 0 g₁.s.toks, .int m t, .int 1 (g₁.s.toks + 1)] }, toks := g₁.s.toks + 1 + 1 }⟩) (k.up (X.trans (ExtX.keeps kp))) (InvH.keeps I kp) hk (fresh_size _) hn q ?_ ?_
  ·obtain ⟨hsz, hit⟩ := hi
   refine LR.of (by simp; lia) fun i x y hx hy => ?_
   rw [List.getElem?_map] at hx
   obtain ⟨j, hj, rfl⟩ := Option.map_eq_some_iff.mp hx
   have hl := (List.getElem?_eq_some_iff.mp hj).1
   rw [List.length_range] at hl
   rw [List.getElem?_range hl] at hj
   cases hj
   rw [Array.getElem?_toList] at hy
   obtain ⟨t', ht⟩ := hit i y hy
   rw [ht]
   exact vint_eq (by lia)
  ·rw [List.length_map, List.length_range]; lia
 | _ => cases hpr
end
end Mine
namespace Mine
open PySem PySem.W PySem.Calls PyProof.Rows PyProof.V PySem.Spec PySem.SeqAt
noncomputable def OkV (sc : Scope) (e : Expr) (iv : IVar) : Prop := (∀ {n : Nat} {C : Cx} {fr : Fm} {g : Sg} {x : AV} {v : Value} {Q : Fm → Hp → Prop} {K : Shared → Prop}, Gd n C sc → setVar x fr g.h Q iv → VR g.α x v → Inv C fr g → KF C g Q K → C.wp (assign e C.env v) (fun _ s => K s) g.s) ∧
 ∀ rest env, assignEach (e :: rest) env = (false, assign e env) :: assignEach rest env
section
variable {n : Nat} {C : Cx} {sc : Scope} {fr : Fm} {g : Sg} {P : Prop} {pos : Pos} {x : AV} {v : Value} {Q : Fm → Hp → Prop} {K : Shared → Prop}
theorem setLoc_snd {id : Str} {y : Nat} (G : Gd n C sc) (hc : IsLoc sc id y) (q : Q (fr.set y x) g.h) (hv : VR g.α x v) (I : Inv C fr g) (k : KF C g Q K) : C.wp (storeName C.env id v) (fun _ s => K s) g.s := by
 refine IsLoc.casesOn hc fun e hl _ => ?_
 subst e
 refine nsAt I fun m hn hm => wpAny_storeName_local ((lk G.E _).trans hl) hn (fun h' hn' hs => ?_) (by rw [kindE G.E]; rfl)
 have kp : ∀ b o, b ≠ C.L → g.s.heap.get? b = some o → h'.get? b = some o := fun b o hb e => (hs.2 b hb).trans e
 have N : NsR g.α (fr.set y x) C.L h' := ⟨hn', fun x' v' e => by
  by_cases z : x' = y
  ·subst z
   obtain rfl := Option.some.inj ((if_pos rfl).symm.trans e)
   exact ⟨v, if_pos rfl, hv⟩
  ·exact One.casesOn (hm x' v' ((if_neg z).symm.trans e)) fun u hu hr => ⟨u, (if_neg fun w => z (nmI w)).trans hu, hr⟩⟩
 exact k (fr.set y x) ⟨g.α, g.h, { g.s with heap := h', toks := g.s.toks + 1 }⟩ q (InvH.own I kp N) (Ext.own I (List.prefix_refl _) (fun _ h => .inl h) kp N)
theorem sV_loc {id : Str} {y : Nat} (hc : IsLoc sc id y) : OkV sc (.Name id pos) (.loc y) := ⟨fun {n C fr g x v Q K} G q hv I k => by
 exact wpAny_assign_Name (setLoc_snd G hc q hv I k), fun _ _ => rfl⟩
theorem sV_cel {id : Str} {y : Nat} (hc : IsCel sc id y) (hk : sc.names.lookup id = some .cell) : OkV sc (.Name id pos) (.cel y) := ⟨fun {n C fr g x v Q K} G q hv I k => by
 refine IsCel.casesOn hc fun e hl _ _ => ?_
 subst e
 refine StC.casesOn q fun e e' q => One.casesOn (I.cel y _ e) fun a ha hlk => cellAt I e' ha fun u hu _ => wpAny_assign_Name (wpAny_storeName_cell (kindE G.E) ((lk G.E _).trans hk) hlk hu fun h' hc' hs => hc'.elim fun o' z => ?_)
 exact I.turnS (s' := { g.s with heap := h' }) (o' := .cell (some x)) e' ha nofun rfl trivial hs z.1 ⟨z.2, hv⟩ fun I X => k fr ⟨g.α, _, { g.s with heap := h' }⟩ q I X, fun _ _ => rfl⟩
theorem each_vars {es : List Expr} {vs : List IVar} (r : LR (OkV sc) es vs) (env : Env) : (assignEach es env).length = vs.length ∧ (assignEach es env).findIdx? (·.1) = none := by
 induction r with
 | nil => exact ⟨rfl, rfl⟩
 | cons h _ ih => rw [h.2, List.findIdx?_cons]; exact ⟨congrArg (· + 1) ih.1, by rw [ih.2]; rfl⟩
theorem setVars_snd {es : List Expr} {vs : List IVar} (r : LR (OkV sc) es vs) {xs : List AV} {us : List Value} (G : Gd n C sc) (q : setVars vs xs fr g.h Q) (hr : LR (VR g.α) xs us) (I : Inv C fr g) (k : KF C g Q K) : C.wp (assignInOrder ((assignEach es C.env).map (·.2)) us) (fun _ s => K s) g.s := by
 induction r generalizing xs us fr g Q with
 | nil =>
  cases xs with
  | nil => exact hr.n (wpAny_pure (k fr g q I .refl))
  | cons x xs => exact q.elim
 | cons h _ ih =>
  cases xs with
  | nil => exact q.elim
  | cons x xs =>
   refine hr.c fun u us hu ht => ?_
   rw [h.2]
   exact wpAny_assignInOrder_more (h.1 G q hu I fun fr₁ g₁ q I X => ih q (VR.monoL X.pre ht) I (k.up X))
inductive ItP (α : List Addr) (s : Heap) (x y : AV) : Value → Prop | mk {t : Addr} {u w : Value} (ht : s.IsTuple t #[u, w]) (hx : VR α x u) (hy : VR α y w) : ItP α s x y (.ref t)
noncomputable def ItR (α : List Addr) (s : Heap) : Item → Value → Prop
 | .one x => VR α x
 | .pair x y => ItP α s x y
noncomputable def Item.isPair : Item → Bool
 | .one _ => false
 | .pair _ _ => true
noncomputable def IsTup (e : Expr) : Prop := ∃ es m pos, e = .Tuple es m pos
noncomputable def OkP (sc : Scope) (e : Expr) (p : IPat) : Prop := (∀ {n : Nat} {C : Cx} {fr : Fm} {g : Sg} {it : Item} {v : Value} {Q : Fm → Hp → Prop} {K : Shared → Prop}, Gd n C sc → bindPat fr g.h Q p it → ItR g.α g.s.heap it v → Inv C fr g → KF C g Q K → C.wp (assign e C.env v) (fun _ s => K s) g.s) ∧
 ∀ {fr h it} {Q : Fm → Hp → Prop}, bindPat fr h Q p it → it.isPair = true → IsTup e
theorem sP_one {e : Expr} {iv : IVar} (h : OkV sc e iv) : OkP sc e (.one iv) := ⟨fun {n C fr g it v Q K} G q hv I k => BindO.casesOn (motive := fun it _ => ItR g.α g.s.heap it v → _) q (fun q hv => h.1 G q hv I k) hv, fun {fr h it Q} q e => BindO.casesOn (motive := fun it _ => it.isPair = true → _) q (fun _ e => nomatch e) e⟩
theorem tup_snd {es : List Expr} {m : Nat} {vs : List IVar} (r : LR (OkV sc) es vs) {t : Addr} {us : Array Value} {xs : List AV} (G : Gd n C sc) (ht : g.s.heap.IsTuple t us) (hr : LR (VR g.α) xs us.toList) (hl : xs.length = vs.length) (q : setVars vs xs fr g.h Q) (I : Inv C fr g) (k : KF C g Q K) :
  C.wp (assign (.Tuple es m pos) C.env (.ref t)) (fun _ s => K s) g.s := by
 have hul : xs.length = us.size := hr.length
 have he := each_vars r C.env
 refine wpAny_assign_Tuple G.A.handled ht (he.1.trans (hl.symm.trans hul)) he.2 fun h' hx => ?_
 have kp : ∀ b o, g.s.heap.get? b = some o → h'.get? b = some o := fun b o e => hx b o (fun z => some_ne (z ▸ e) (fresh_size _)) e
 exact setVars_snd (g := ⟨g.α, g.h, { g.s with heap := h' }⟩) r G q hr (InvH.keeps I kp) (k.up (ExtX.keeps kp))
theorem sP_tup {es : List Expr} {m : Nat} {vs : List IVar} (r : LR (OkV sc) es vs) : OkP sc (.Tuple es m pos) (.tup vs) := ⟨fun {n C fr g it v Q K} G q hv I k => BindT.casesOn (motive := fun it _ => ItR g.α g.s.heap it v → _) q (fun e l q hv => VRef.casesOn hv fun ha => tupAt I e ha fun us mm ht hr _ _ => tup_snd r G (isTup_of ht) hr l q I k)
 (fun l q hv => ItP.casesOn hv fun ht hx hy => tup_snd r G ht (.cons hx (.one hy)) l.symm q I k) hv, fun _ _ => ⟨_, _, _, rfl⟩⟩
theorem dput_stored {α : List Addr} {i : Int} {x : AV} {v : Value} (hv : VR α x v) {es : List (Int × AV)} {kvs : List (Int × Value)} (r : LR (ER α) es kvs) (hn : (kvs.map (·.1)).Nodup) : LR (ER α) (dput es i x) (PySem.stored kvs i v) := by
 induction r with
 | nil => exact .one ⟨rfl, hv⟩
 | @cons p q es kvs h t ih =>
  obtain ⟨k, y⟩ := p
  obtain ⟨k', u⟩ := q
  obtain ⟨e, hq⟩ := h
  have e : k = k' := e
  subst e
  have hn := List.nodup_cons.mp hn
  unfold dput
  by_cases z : k = i
  ·subst z
   have : PySem.stored ((k, u) :: kvs) k v = (k, v) :: kvs := by
    unfold PySem.stored
    simp only [List.any_cons, decide_true, Bool.true_or, if_true, List.map_cons]
    congr 1
    conv => rhs; rw [← List.map_id kvs]
    refine List.map_congr_left fun p hp => ?_
    rw [if_neg (fun w => hn.1 (List.mem_map.mpr ⟨p, hp, w⟩))]; rfl
   rw [this, if_pos rfl]
   exact .cons ⟨rfl, hv⟩ t
  ·have : PySem.stored ((k, u) :: kvs) i v = (k, u) :: PySem.stored kvs i v := by
    unfold PySem.stored
    simp only [List.any_cons, z, decide_false, Bool.false_or, List.map_cons, if_false]
    split <;> simp
   rw [this, if_neg z]
   exact .cons ⟨rfl, hq⟩ (ih hn.2)
theorem ddel_without {α : List Addr} {i : Int} {es : List (Int × AV)} {kvs : List (Int × Value)} (r : LR (ER α) es kvs) (hn : (kvs.map (·.1)).Nodup) : LR (ER α) (ddel es i) (PySem.without kvs i) := by
 induction r with
 | nil => exact .nil
 | @cons p q es kvs h t ih =>
  obtain ⟨k, y⟩ := p
  obtain ⟨k', u⟩ := q
  obtain ⟨e, hq⟩ := h
  have e : k = k' := e
  subst e
  have hn := List.nodup_cons.mp hn
  unfold ddel PySem.without
  by_cases z : k = i
  ·subst z
   rw [if_pos rfl, List.filter_cons, if_neg (by simp)]
   rw [List.filter_eq_self.mpr fun p hp => (decide_eq_true fun w => hn.1 (List.mem_map.mpr ⟨p, hp, w⟩) : decide (p.1 ≠ k) = true)]
   exact t
  ·rw [if_neg z, List.filter_cons, if_pos (by simp [z])]
   exact .cons ⟨rfl, hq⟩ (ih hn.2)
theorem res_dict {k ver : Nat} {es es' : List (Int × AV)} {a : Addr} {kvs' : List (Int × Value)} {h' : Heap} {tk : Nat} {Q : Hp → Prop} (I : Inv C fr g) (hk : g.h[k]? = some (.dict es ver)) (ha : g.α[k]? = some a) (hd : h'.DictOf (kd C.w) a kvs') (hs : Heap.SameBut a g.s.heap h') (hr : LR (ER g.α) es' kvs')
  (q : ∀ n', Q (g.h.set k (.dict es' n'))) (K' : KH C fr g Q K) : K { g.s with heap := h', toks := tk } := by
 obtain ⟨⟨c, dd, dat, sl⟩, ens, ep, ho, ⟨e1, e2, e3⟩, e4, h1, h2, h3⟩ := hd
 obtain rfl : c = _ := e1
 obtain rfl : dd = _ := e2
 obtain rfl : sl = _ := e3
 obtain rfl : dat = _ := e4
 exact I.turnS (s' := { g.s with heap := h', toks := tk }) (o' := .dict es' ep) hk ha nofun rfl trivial hs ho (.mk h1 h2 h3 hr) fun I X => K' ⟨g.α, _, { g.s with heap := h', toks := tk }⟩ (q ep) I X
theorem int_key {w : World} (i : Int) (t : Tok) : (kd w).is i (.int i t) = true := by simp [kd, intKind, Value.isInt]
theorem dictOf_at {d : Addr} {kvs : List (Int × Value)} {ver : Nat} {hp : Heap} {w : World} (hd : hp.DictAt (kd w) d kvs ver) : hp.DictOf (kd w) d kvs := hd.elim fun o z => z.elim fun es z => ⟨o, es, ver, z⟩
theorem dict_sz {α : List Addr} {es : List (Int × AV)} {kvs : List (Int × Value)} (r : LR (ER α) es kvs) (l : es.length ≤ 100000) : kvs.length ≤ sizeLine := sz_le (le2 (r.length ▸ l))
theorem setItem_snd {o i : AV} {uo ui : Value} {Q : Hp → Prop} (q : setIdx g.h Q x o i) (ho : VR g.α o uo) (hi : VR g.α i ui) (hv : VR g.α x v) (I : Inv C fr g) (k : KH C fr g Q K) : C.wp (setItem uo ui v) (fun _ s => K s) g.s := by
 induction q with
 | list e l l' q => exact VInt.casesOn hi (VRef.casesOn ho fun ha => listAt I e ha fun items m hl hr hlen hz => ki_setAt (n := m) hl l (Int.lt_trans l' (fitSz hz)) (hlen ▸ l') (KE.seq (Q := fun _ h => Q h) (K := fun _ s => K s) (tk := g.s.toks) (x := .none) (v := .none) (f := (·.setIfInBounds _ v)) (fun _ _ g' q _ I X => k g' q I X) I e ha hl (by simpa using hr.set _ hv) (by rw [List.length_set]; exact hz) q rfl))
 | dict e l q => exact VInt.casesOn hi (VRef.casesOn ho fun ha => dictAt I e ha fun kvs hd hr hn => wpAny_setItem_pairs (int_key _ _) (dictOf_at hd) (fun h' hm hs => res_dict I e ha hm hs (dput_stored hv hr hn) q k) (dict_sz hr l))
theorem delItem_snd {o i : AV} {uo ui : Value} {Q : Hp → Prop} (q : delIdx g.h Q o i) (ho : VR g.α o uo) (hi : VR g.α i ui) (I : Inv C fr g) (k : KH C fr g Q K) : C.wp (delItem uo ui) (fun _ s => K s) g.s := by
 induction q with
 | dict e l hm q => exact VInt.casesOn hi fun {t} => VRef.casesOn ho fun {a} ha => dictAt I e ha fun kvs hd hr hn => wpAny_delItem_slot (dictOf_at hd).typeIs (by decide) F.slot_dict_delitem (call_meetsIn F.slot_dict_delitem (dictOf_at hd).typeIs F.entry_dict_delitem (F.args_dict_delitem_2 _ _) (meets_dict_delitem_pairs (kd C.w) a (int_key _ t))
   ⟨kvs, dictOf_at hd, dict_sz hr l, by rw [isSomeMem]; exact decide_eq_true (ER.keys hr ▸ hm), fun h' hm' hs => res_dict I e ha hm' hs (ddel_without hr hn) q k⟩)
end
end Mine
namespace Mine
open PySem PySem.W PySem.Calls PyProof.Rows PyProof.V PySem.Spec PySem.SeqAt
noncomputable def Cx.at (C : Cx) (env : Env) : Cx := { C with env := env }
noncomputable def Off (C : Cx) (α fp : List Addr) : Prop := ∀ a ∈ fp, Free C α a
noncomputable def Stands (s : Heap) (a : Addr) : Prop := ∃ o, s.get? a = some o ∧ isCode o = false
inductive Turn (fp : List Addr) (s s' : Shared) : Prop | mk (k : ∀ b o, b ∉ fp → s.heap.get? b = some o → s'.heap.get? b = some o) (eg : s'.gens = s.gens) (eo : s'.os = s.os)
section
variable {C : Cx} {fr : Fm} {g g₁ : Sg} {fp : List Addr} {s' : Shared}
theorem standsNc {s : Heap} (h : ∀ a ∈ fp, Stands s a) : ∀ a ∈ fp, ∀ o, s.get? a = some o → isCode o = false := fun a ha o e => (h a ha).elim fun o' z => Option.some.inj (z.1.symm.trans e) ▸ z.2
theorem ExtX.off {X F : List Addr} {h' : Hp} (x : ExtX X F g g₁) (hf : ∀ a ∈ fp, g.s.heap.get? a = none) (t : Turn fp g₁.s s') : ExtX X F g ⟨g₁.α, h', s'⟩ :=
 ⟨x.pre, x.new, fun b o e => Kept.casesOn (x.at_ b o e) fun o' e' k' => ⟨o', t.1 b o' (fun z => some_ne e (hf b z)) e', k'⟩, t.2.trans x.gens, t.3.trans x.os⟩
theorem Inv.off (I : Inv C fr g) (of : Off C g.α fp) (h : ∀ a ∈ fp, Stands g.s.heap a) (t : Turn fp g.s s') : Inv C fr ⟨g.α, g.h, s'⟩ := InvH.off I of (standsNc h) t.1
theorem Off.ext (of : Off C g.α fp) (lv : ∀ a ∈ fp, Stands g.s.heap a) (x : Ext C g g₁) : Off C g₁.α fp := fun a ha => (lv a ha).elim fun o z => ⟨x.notin (of a ha).α z.1, (of a ha).L, (of a ha).F, (of a ha).T, (of a ha).B⟩
theorem Off.keep (of : Off C g.α fp) (x : Ext C g g₁) : ∀ a ∈ fp, ∀ o, g.s.heap.get? a = some o → g₁.s.heap.get? a = some o := fun a ha o e => x.keep (of a ha).α (fun z => (of a ha).L (List.mem_singleton.mp z)) (of a ha).T (of a ha).F e
end
noncomputable def nextP (C : Cx) (tg : Expr) (it : Value) (QN : Shared → Prop) (QS : Value → Shared → Prop) : Option Value → Shared → Prop
 | none => QN
 | some v => fun s => C.wp (letOwnedTupleGo tg it v) (fun _ s => QS v s) s
structure Src (C : Cx) (α₀ : List Addr) (tg : Expr) (it : Value) (items : List Item) (chk : Hp → Prop) (fp : List Addr) (St : Nat → Heap → Prop) : Prop where
 mono : ∀ {i : Nat} {s s' : Heap}, St i s → (∀ a ∈ fp, ∀ o, s.get? a = some o → s'.get? a = some o) → St i s'
 live : ∀ {i : Nat} {s : Heap}, St i s → ∀ a ∈ fp, Stands s a
 self : ∀ {i : Nat} {s : Shared} {K : Value → Shared → Prop}, St i s.heap → K it s → C.wp (pyIter it) K s
 next : ∀ {i : Nat} {env : Env} {fr : Fm} {g : Sg} {QN : Shared → Prop} {QS : Value → Shared → Prop}, α₀ <+: g.α → St i g.s.heap → chk g.h → Inv (C.at env) fr g → (∀ x, items[i]? = some x → x.isPair = true → IsTup tg) →
  (items[i]? = none → ∀ s', Turn fp g.s s' → QN s') → (∀ x v s', items[i]? = some x → Turn fp g.s s' → ItR g.α s'.heap x v → St (i + 1) s'.heap → QS v s') → C.wp (pyNext it) (nextP C tg it QN QS) g.s
noncomputable def KS (C : Cx) (fr : Fm) (g : Sg) (tg : Expr) (Q : List Item → (Hp → Prop) → Hp → Prop) (K : Value → Shared → Prop) : Prop := ∀ iv items chk fp St g', Q items chk g'.h → Src C g'.α tg iv items chk fp St → St 0 g'.s.heap → Off C g'.α fp → (∀ a ∈ fp, g.s.heap.get? a = none) → Inv C fr g' → Ext C g g' → K iv g'.s
section
variable {C : Cx} {fr : Fm} {g : Sg} {tg : Expr} {α₀ : List Addr}
theorem owned_no {I : Addr} {v : Value} {o : Obj} {nn : String} {vs : Array Value} {K : Unit → Shared → Prop} {s : Shared} (ho : s.heap.get? I = some o) (hc : o.cls = .type nn) (hd : o.data = .fields vs)
  (hn : (["enumerate", "zip", "dict_itemiterator", "dict_reverseitemiterator", "odict_iterator", "itertools.zip_longest", "itertools.pairwise"].contains nn) = false) (q : K () s) : C.wp (letOwnedTupleGo tg (.ref I) v) K s := by
 have key : C.wp (do
   let (.ref r, .ref a) := ((Value.ref I), v) | return
   let o ← load r
   match o.cls, o.data with
   | .type n, .fields vs =>
    if ["enumerate", "zip", "dict_itemiterator", "dict_reverseitemiterator", "odict_iterator", "itertools.zip_longest", "itertools.pairwise"].contains n && vs[0]? == some (rawInt a) then
     rule "for.unpacks-the-owned-tuple"
     updateField r 0 .none
   | _, _ => pure ()) K s := by
  cases v with
  | ref a =>
   refine wpAny_bind (wpAny_loadPart ho ?_)
   rw [hc, hd]
   dsimp only
   rw [hn, Bool.false_and]
   exact wpAny_pure q
  | _ => exact wpAny_pure q
 cases tg <;> first | exact key | exact wpAny_pure q
theorem one_src {it : Addr} {tn : String} {items : List Item} {chk : Hp → Prop} {Vs : Nat → Array Value} (hn : (["enumerate", "zip", "dict_itemiterator", "dict_reverseitemiterator", "odict_iterator", "itertools.zip_longest", "itertools.pairwise"].contains tn) = false) (hv : ∀ i, isStrV (Vs i)[1]? = false)
  (self : ∀ {i : Nat} {s : Shared} {K : Value → Shared → Prop}, (∃ o, s.heap.get? it = some o ∧ o.cls = .type tn ∧ o.data = .fields (Vs i)) → K (.ref it) s → C.wp (pyIter (.ref it)) K s)
  (next : ∀ {i : Nat} {env : Env} {fr : Fm} {g : Sg} {K : Option Value → Shared → Prop}, α₀ <+: g.α → (∃ o, g.s.heap.get? it = some o ∧ o.cls = .type tn ∧ o.data = .fields (Vs i)) → chk g.h → Inv (C.at env) fr g →
   (items[i]? = none → ∀ h', (∀ b o, b ≠ it → g.s.heap.get? b = some o → h'.get? b = some o) → K none { g.s with heap := h' }) →
   (∀ x v h' tk, items[i]? = some x → ItR g.α h' x v → (∃ o, h'.get? it = some o ∧ o.cls = .type tn ∧ o.data = .fields (Vs (i + 1))) → (∀ b o, b ≠ it → g.s.heap.get? b = some o → h'.get? b = some o) → K (some v) { g.s with heap := h', toks := tk }) → C.wp (pyNext (.ref it)) K g.s) :
  Src C α₀ tg (.ref it) items chk [it] (fun i s => ∃ o, s.get? it = some o ∧ o.cls = .type tn ∧ o.data = .fields (Vs i)) where
 mono h k := h.elim fun o z => ⟨o, k it (.head _) o z.1, z.2⟩
 live {i s} h a ha := h.elim fun o z => ⟨o, List.mem_singleton.mp ha ▸ z.1, by unfold isCode; rw [z.2.2]; exact hv i⟩
 self := self
 next pre st c I _ hN hS := next pre st c I (fun e h' k => hN e _ ⟨fun b o n => k b o fun z => n (z ▸ .head _), rfl, rfl⟩) fun x v h' tk e r st' k => st'.elim fun o z => owned_no z.1 z.2.1 z.2.2 hn (hS x v _ e ⟨fun b o n => k b o fun z => n (z ▸ .head _), rfl, rfl⟩ r st')
theorem oneGet {xs : List AV} {vs : List Value} {α : List Addr} {i : Nat} {P : Prop} (r : LR (VR α) xs vs) (k1 : (xs.map Item.one)[i]? = none → vs[i]? = none → P) (k2 : ∀ y v, (xs.map Item.one)[i]? = some (.one y) → vs[i]? = some v → VR α y v → P) : P := by
 have z := r.nth i
 rw [List.getElem?_map] at k1 k2
 cases e : xs[i]? with
 | none => rw [e] at k1 z; exact k1 rfl (z.none_left rfl)
 | some y => rw [e] at k2 z; exact One.casesOn z.sm fun v e r => k2 y v rfl e r
theorem src_list {k : Nat} {o : AObj} {xs : List AV} {la it : Addr} (hh : C.A.handled = none) (ho : Lst [o] (.ref 0) xs) (ha : α₀[k]? = some la) :
  Src C α₀ tg (.ref it) (xs.map .one) (fun h => h[k]? = some o) [it] (fun i s => s.IsListIter it la i) :=
 one_src (Vs := fun i => #[.ref la, .int i 0]) (by decide) (fun i => rfl) (fun h q => wpAny_pyIter_listiter h q) fun {i env fr g K} pre st hc I hN hS => by
  have L : Lst g.h (.ref k) xs := by
   cases ho with
   | list e => cases e; exact .list hc
   | ro e => cases e; exact .ro hc
  refine lstAt (P := fun u => u = .ref la → _) I L (.mk (pre_get pre ha)) (fun a vs hl hr _ _ ea => ?_) rfl
  cases ea
  exact oneGet hr (fun e e' => wpAny_pyNext_list_end hh st hl (by simpa using e') fun h' hx => hN e h' hx) fun y v e e' r => wpAny_pyNext_list_item st hl (x := v) (by simpa using e') fun h' st' hs => hS _ v h' g.s.toks e r st' hs.extBut
theorem src_tuple {k : Nat} {xs : List AV} {la it : Addr} (hh : C.A.handled = none) (ha : α₀[k]? = some la) : Src C α₀ tg (.ref it) (xs.map .one) (fun h => h[k]? = some (.tuple xs)) [it] (fun i s => s.IsTupleIter it la i) :=
 one_src (Vs := fun i => #[.ref la, .int i 0]) (by decide) (fun i => rfl) (fun h q => wpAny_pyIter_tupleiter h q) fun {i env fr g K} pre st hc I hN hS => tupAt I hc (pre_get pre ha) fun vs m hl hr _ _ =>
  oneGet hr (fun e e' => wpAny_pyNext_tuple_end hh st (isTup_of hl) (by simpa using e') fun h' hx => hN e h' hx) fun y v e e' r => wpAny_pyNext_tuple_item st (isTup_of hl) (x := v) (by simpa using e') fun h' st' hs => hS _ v h' g.s.toks e r st' hs.extBut
theorem pairGet {es : List (Int × AV)} {kvs : List (Int × Value)} {α : List Addr} {i : Nat} {f : Int × AV → Item} {P : Prop} (r : LR (ER α) es kvs) (k1 : (es.map f)[i]? = none → kvs[i]? = none → P) (k2 : ∀ y v, (es.map f)[i]? = some (f y) → kvs[i]? = some (y.1, v) → VR α y.2 v → P) : P := by
 have z := r.nth i
 rw [List.getElem?_map] at k1 k2
 cases e : es[i]? with
 | none => rw [e] at k1 z; exact k1 rfl (z.none_left rfl)
 | some y => rw [e] at k2 z; exact One.casesOn z.sm fun v e r => k2 y v.2 rfl (e.trans (congrArg some (Prod.ext r.1.symm rfl))) r.2
theorem src_keys {k ver : Nat} {es : List (Int × AV)} {la it : Addr} (hh : C.A.handled = none) (ha : α₀[k]? = some la) : Src C α₀ tg (.ref it) ((es.map fun p => AV.int p.1).map .one) (fun h => h[k]? = some (.dict es ver)) [it] (fun i s => s.IsKeyIter it la i es.length ver) :=
 one_src (Vs := fun i => #[.ref la, .int i 0, .int es.length 0, .int ver 0]) (by decide) (fun i => rfl) (fun h q => wpAny_pyIter_keyiter h q) fun {i env fr g K} pre st hc I hN hS => dictAt I hc (pre_get pre ha) fun kvs hd hr _ => by
  rw [List.map_map] at hN hS
  rw [hr.length] at st hS
  exact pairGet (f := Item.one ∘ fun p => AV.int p.1) hr (fun e e' => wpAny_pyNext_dict_end hh st hd e' fun h' hx => hN e h' hx) fun y v e e' r => wpAny_pyNext_dict_item st hd e' fun key h' hkey st' hs => hS _ key h' g.s.toks e (by
   obtain ⟨t, rfl⟩ := Value.isInt_shape hkey
   exact vint) st' hs.extBut
theorem src_values {k ver : Nat} {es : List (Int × AV)} {la it : Addr} (hh : C.A.handled = none) (ha : α₀[k]? = some la) : Src C α₀ tg (.ref it) (es.map fun p => .one p.2) (fun h => h[k]? = some (.dict es ver)) [it] (fun i s => s.IsValIter it la i es.length ver) :=
 one_src (Vs := fun i => #[.ref la, .int i 0, .int es.length 0, .int ver 0]) (by decide) (fun i => rfl) (fun h q => wpAny_pyIter_valiter h q) fun {i env fr g K} pre st hc I hN hS => dictAt I hc (pre_get pre ha) fun kvs hd hr _ => by
  rw [hr.length] at st hS
  exact pairGet (f := fun p => .one p.2) hr (fun e e' => wpAny_pyNext_values_end hh st hd e' fun h' hx => hN e h' hx) fun y v e e' r => wpAny_pyNext_values_item st hd e' fun h' st' hs => hS _ v h' g.s.toks e r st' hs.extBut
end
end Mine
namespace Mine
open PySem PySem.W PySem.Calls PyProof.Rows PyProof.V PySem.Spec PySem.SeqAt
section
variable {n : Nat} {C : Cx} {sc : Scope} {fr : Fm} {g : Sg} {tg : Expr} {α₀ : List Addr} {Q : List Item → (Hp → Prop) → Hp → Prop} {K : Value → Shared → Prop} {pos : Pos}
theorem range_get {a b : Int} {i : Nat} {P : Prop} (k1 : (rangeL a b)[i]? = none → (b - a).toNat ≤ i → P) (k2 : (rangeL a b)[i]? = some (.one (.int (a + i))) → i < (b - a).toNat → P) : P := by
 unfold rangeL at *
 rw [List.getElem?_map] at k1 k2
 by_cases h : i < (b - a).toNat
 ·rw [List.getElem?_range h] at k2; exact k2 rfl h
 ·rw [List.getElem?_eq_none (by rw [List.length_range]; exact Nat.le_of_not_lt h)] at k1; exact k1 rfl (Nat.le_of_not_lt h)
theorem src_range {a b : Int} {it : Addr} (hh : C.A.handled = none) : Src C α₀ tg (.ref it) (rangeL a b) (fun _ => True) [it] (fun i s => i ≤ (b - a).toNat ∧ IsRangeIter s it (a + i) (((b - a).toNat : Int) - i) 1) where
 mono h k := ⟨h.1, k it (.head _) _ h.2⟩
 live h a ha := ⟨_, List.mem_singleton.mp ha ▸ h.2, rfl⟩
 self h q := wpAny_pyIter_rangeiter h.2 q
 next {i env fr g QN QS} pre st c I _ hN hS := range_get (fun e hx => wpAny_pyNext_range_end hh st.2 (by lia) fun h' hx => hN e { g.s with heap := h' } ⟨fun b o n => hx b o fun z => n (z ▸ .head _), rfl, rfl⟩) fun e hlt =>
  wpAny_pyNext_range_item st.2 (by lia) fun h' hst' hs => owned_no hst' rfl rfl (by decide) (hS _ _ { g.s with heap := h', toks := g.s.toks + 1 } e ⟨fun b o n => hs.extBut b o fun z => n (z ▸ .head _), rfl, rfl⟩ (show VInt _ _ from vint) ⟨hlt, by
   have e1 : a + ((i + 1 : Nat) : Int) = a + i + 1 := by lia
   have e2 : (((b - a).toNat : Int) - ((i + 1 : Nat) : Int)) = ((b - a).toNat : Int) - i - 1 := by lia
   rw [e1, e2]; exact hst'⟩)
theorem zipGet {xs ys : List AV} {us ws : List Value} {α : List Addr} {i : Nat} {P : Prop} (r : LR (VR α) xs us) (r' : LR (VR α) ys ws) (k1 : ((xs.zip ys).map fun p => Item.pair p.1 p.2)[i]? = none → us[i]? = none ∨ ws[i]? = none → P)
  (k2 : ∀ x y u w, ((xs.zip ys).map fun p => Item.pair p.1 p.2)[i]? = some (.pair x y) → us[i]? = some u → ws[i]? = some w → VR α x u → VR α y w → P) : P := by
 have z := r.nth i
 have z' := r'.nth i
 have e : ∀ {o : Option (AV × AV)}, (match xs[i]?, ys[i]? with | some a, some b => some (Prod.mk a b) | _, _ => none) = o → ((xs.zip ys).map fun p => Item.pair p.1 p.2)[i]? = o.map fun p => Item.pair p.1 p.2 := fun {o} e => by
  rw [List.getElem?_map, ← e]
  show Option.map _ (List.zipWith Prod.mk xs ys)[i]? = _
  rw [List.getElem?_zipWith]
  cases xs[i]? <;> cases ys[i]? <;> rfl
 cases ex : xs[i]? with
 | none => rw [ex] at e z; exact k1 (e rfl) (.inl (z.none_left rfl))
 | some x =>
  cases ey : ys[i]? with
  | none => rw [ex, ey] at e; rw [ey] at z'; exact k1 (e rfl) (.inr (z'.none_left rfl))
  | some y => rw [ex, ey] at e; rw [ex] at z; rw [ey] at z'; exact One.casesOn z.sm fun u e1 r => One.casesOn z'.sm fun w e' r' => k2 x y u w (e rfl) e1 e' r r'
inductive ZipSt (z TI TO i1 i2 l1 l2 : Addr) (i : Nat) (s : Heap) : Prop | mk {a b : Value} (h1 : IsZip s z TI TO .none) (h2 : IsPair s TI (.ref i1) (.ref i2)) (h3 : IsPair s TO a b) (h4 : s.IsListIter i1 l1 i) (h5 : s.IsListIter i2 l2 i) : ZipSt z TI TO i1 i2 l1 l2 i s
theorem iterAt {s s' : Heap} {a l : Addr} {i : Nat} (h : s.IsListIter a l i) (k : ∀ o, s.get? a = some o → s'.get? a = some o) : s'.IsListIter a l i := h.elim fun o z => ⟨o, k o z.1, z.2⟩
theorem iterStands {s : Heap} {a l : Addr} {i : Nat} (h : s.IsListIter a l i) : Stands s a := h.elim fun o z => ⟨o, z.1, by unfold isCode; rw [z.2.2]; rfl⟩
theorem src_zip {k j : Nat} {xs ys : List AV} {l1 l2 z TI TO i1 i2 : Addr} (hh : C.A.handled = none) (ha : α₀[k]? = some l1) (hb : α₀[j]? = some l2) (Z : ZipApart z TI TO i1 i2 l1 l2) :
  Src C α₀ tg (.ref z) ((xs.zip ys).map fun p => .pair p.1 p.2) (fun h => h[k]? = some (.list xs) ∧ h[j]? = some (.list ys)) [z, TI, TO, i1, i2] (ZipSt z TI TO i1 i2 l1 l2) where
 mono h k := ZipSt.casesOn h fun h1 h2 h3 h4 h5 => ⟨k z (by simp) _ h1, k TI (by simp) _ h2, k TO (by simp) _ h3, iterAt h4 (k i1 (by simp)), iterAt h5 (k i2 (by simp))⟩
 live h c hc := ZipSt.casesOn h fun h1 h2 h3 h4 h5 => by
  simp only [List.mem_cons, List.mem_nil_iff, or_false] at hc
  rcases hc with rfl | rfl | rfl | rfl | rfl
  ·exact ⟨_, h1, rfl⟩
  ·exact ⟨_, h2, rfl⟩
  ·exact ⟨_, h3, rfl⟩
  ·exact iterStands h4
  ·exact iterStands h5
 self h q := ZipSt.casesOn h fun h1 _ _ _ _ => wpAny_pyIter_zip h1 q
 next {i env fr g QN QS} pre st c I hT hN hS := ZipSt.casesOn st fun h1 h2 h3 h4 h5 => listAt I c.1 (pre_get pre ha) fun us m1 hl1 hr1 _ _ => listAt I c.2 (pre_get pre hb) fun ws m2 hl2 hr2 _ _ => by
  have kp : ∀ {h' : Heap}, (∀ c o, c ≠ z → c ≠ TO → c ≠ i1 → c ≠ i2 → g.s.heap.get? c = some o → h'.get? c = some o) → ∀ b o, b ∉ [z, TI, TO, i1, i2] → g.s.heap.get? b = some o → h'.get? b = some o := fun hk b o hb e => by
   simp only [List.mem_cons, List.mem_nil_iff, or_false, not_or] at hb
   exact hk b o hb.1 hb.2.2.1 hb.2.2.2.1 hb.2.2.2.2 e
  refine zipGet hr1 hr2 (fun e hend => wpAny_pyNext_zip_end hh Z h1 h2 h3 h4 h5 (isList_of hl1) (isList_of hl2) (by simpa using hend) fun h' hk => hN e { g.s with heap := h' } ⟨kp hk, rfl, rfl⟩) fun x y v1 v2 e e1 e2 r1 r2 => ?_
  obtain ⟨elts, kk, pos, rfl⟩ := hT _ e rfl
  refine wpAny_pyNext_zip_item Z h1 h2 h3 h4 h5 (isList_of hl1) (isList_of hl2) (x := v1) (y := v2) (by simpa using e1) (by simpa using e2) fun h' g1 g2 g3 g4 g5 gs gk => ?_
  refine wpAny_letOwnedTupleGo_zip g1 fun h2' z1 hs => ?_
  have nz : ∀ c, c ≠ z → h2'.get? c = h'.get? c := fun c hc => hs.2 c hc
  have hsz : g.s.heap.objs.size ≠ z := fun q => by have := Heap.lt_size h1; rw [q] at this; exact Nat.lt_irrefl _ this
  refine hS _ _ { g.s with heap := h2' } e ⟨fun c o hc q => (nz c fun q => hc (by rw [q]; exact .head _)).trans (kp gk c o hc q), rfl, rfl⟩ (.mk (t := g.s.heap.objs.size) ⟨_, (nz _ hsz).trans g5, rfl, 0, rfl⟩ r1 r2)
   ⟨z1, (nz TI Z.TIz).trans (gk TI _ Z.TIz Z.TITO Z.TIi1 Z.TIi2 h2), (nz TO Z.TOz).trans g2, iterAt g3 fun o q => (nz i1 Z.i1z).trans q, iterAt g4 fun o q => (nz i2 Z.i2z).trans q⟩
noncomputable def OkS (sc : Scope) (it : Expr) (src : ISrc) : Prop := ∀ {n : Nat} {C : Cx} {fr : Fm} {g : Sg} {tg : Expr} {Q : List Item → (Hp → Prop) → Hp → Prop} {K : Value → Shared → Prop}, Gd n C sc → srcE (go n) src fr g.h Q → Inv C fr g → KS C fr g tg Q K → C.wp (eval it C.env) (fun x s => C.wp (pyIter x) K s) g.s
theorem KS.one (k : KS C fr g tg Q K) {items : List Item} {chk : Hp → Prop} {St : Nat → Heap → Prop} {o : Obj} {g₁ : Sg} (I : Inv C fr g₁) (X : Ext C g g₁) (q : Q items chk g₁.h) (S : Src C g₁.α tg (.ref g₁.s.heap.objs.size) items chk [g₁.s.heap.objs.size] St) (st : St 0 (g₁.s.heap.push o)) :
  K (.ref g₁.s.heap.objs.size) { g₁.s with heap := g₁.s.heap.push o } :=
 have kp : ∀ b o', g₁.s.heap.get? b = some o' → (g₁.s.heap.push o).get? b = some o' := fun b o' e => Heap.get?_push_of_some _ e
 k _ items chk _ St ⟨g₁.α, g₁.h, { g₁.s with heap := g₁.s.heap.push o }⟩ q S st (fun a ha => List.mem_singleton.mp ha ▸ InvH.free I (fresh_size _)) (fun a ha => List.mem_singleton.mp ha ▸ X.fresh (fresh_size _)) (InvH.keeps I kp) (X.trans (ExtX.keeps kp))
theorem sS_seq {e : Expr} {a : IExpr} (h : Ok sc e a) : OkS sc e (.seq a) := fun {n C fr g tg Q K} G q I k => h.ev G q I fun u v g₁ q hv I X => by
 induction q with
 | @mk j o xs e ei q =>
  refine VRef.casesOn hv fun ha => ?_
  induction o with
  | list xs => cases ei; exact listAt I e ha fun us m hl _ _ _ => wpAny_pyIter_list (isList_of hl) (k.one I X q (src_list G.A.handled (.list rfl) ha) ⟨_, Heap.get?_push_size _ rfl, rfl, rfl⟩)
  | ro xs => cases ei; exact roAt I e ha fun us hl _ _ _ => wpAny_pyIter_list hl (k.one I X q (src_list G.A.handled (.ro rfl) ha) ⟨_, Heap.get?_push_size _ rfl, rfl, rfl⟩)
  | tuple xs => cases ei; exact tupAt I e ha fun us m hl _ _ _ => wpAny_pyIter_tuple (isTup_of hl) (k.one I X q (src_tuple G.A.handled ha) ⟨_, Heap.get?_push_size _ rfl, rfl, rfl⟩)
  | dict es ver => cases ei; exact dictAt I e ha fun kvs hd hr _ => wpAny_pyIter_dict (sysNe I G.W e nofun ha) hd (k.one I X q (src_keys G.A.handled ha) ⟨_, Heap.get?_push_size _ rfl, rfl, by rw [hr.length]; rfl⟩)
  | _ => exact noS ei
theorem range_src {a b : Int} {t u v : Tok} {rr : Addr} {g₁ : Sg} (A : AOk n C.A) (ha : -100000 ≤ a ∧ a ≤ 100000) (hb : -100000 ≤ b ∧ b ≤ 100000) (I : Inv C fr g₁) (X : Ext C g g₁) (q : Q (rangeL a b) (fun _ => True) g₁.h) (hr : IsRange g₁.s.heap rr a b 1 t u v) (k : KS C fr g tg Q K) : C.wp (pyIter (.ref rr)) K g₁.s := by
 refine wpAny_pyIter_range hr (range_small ha hb) (k.one I X q (src_range A.handled) ⟨Nat.zero_le _, ?_⟩)
 rw [range_size2]
 have := Heap.get?_push_size g₁.s.heap (o := { cls := .type "range_iterator", data := .fields #[rawInt a, rawInt ((b - a).toNat : Int), rawInt 1] }) rfl
 simpa using this
theorem sS_range1 {id : Str} {p : Pos} {e : Expr} {b : IExpr} (hg : IsGlo sc id (.ty "range")) (h : Ok sc e b) : OkS sc (.Call (.Name id p) [e] [] pos) (.range1 b) := fun {n C fr g tg Q K} G q I k =>
 call_ty hg (.one h) G (evs1 q) I fun vs xs g₁ q0 hvs I X => q0.elim fun v z => by
  obtain ⟨rfl, qq⟩ := z
  generalize h0 : AV.int 0 = a0 at qq
  induction qq with
  | mk la lb q =>
   cases h0
   exact hvs.c1 fun y hy => VInt.casesOn hy fun {t} => call_range_1 (range_src (g₁ := ⟨g₁.α, g₁.h, { g₁.s with heap := g₁.s.heap.push { cls := .type "range", data := .fields #[.int 0 g₁.s.toks, .int _ t, .int 1 (g₁.s.toks + 1)] }, toks := g₁.s.toks + 1 + 1 }⟩) G.A la lb (InvH.keeps I fun b o e => Heap.get?_push_of_some _ e) (X.trans (ExtX.keeps fun b o e => Heap.get?_push_of_some _ e)) q (Heap.get?_push_size _ rfl) k)
theorem sS_range2 {id : Str} {p : Pos} {e e' : Expr} {a b : IExpr} (hg : IsGlo sc id (.ty "range")) (h : Ok sc e a) (h' : Ok sc e' b) : OkS sc (.Call (.Name id p) [e, e'] [] pos) (.range2 a b) := fun {n C fr g tg Q K} G q I k =>
 call_ty hg (.cons h (.one h')) G (evs2 q) I fun vs xs g₁ q0 hvs I X => q0.elim fun u z => z.elim fun v z => by
  obtain ⟨rfl, qq⟩ := z
  induction qq with
  | mk la lb q => exact hvs.c fun y r hy ht => ht.c1 fun y' hy' => VInt.casesOn hy fun {t} => VInt.casesOn hy' fun {t'} => call_range_2 (range_src (g₁ := ⟨g₁.α, g₁.h, { g₁.s with heap := g₁.s.heap.push { cls := .type "range", data := .fields #[.int _ t, .int _ t', .int 1 g₁.s.toks] }, toks := g₁.s.toks + 1 }⟩) G.A la lb (InvH.keeps I fun b o e => Heap.get?_push_of_some _ e) (X.trans (ExtX.keeps fun b o e => Heap.get?_push_of_some _ e)) q (Heap.get?_push_size _ rfl) k)
theorem zip_apart {m l1 l2 : Nat} (b1 : l1 < m) (b2 : l2 < m) : ZipApart (m + 4) (m + 2) (m + 3) m (m + 1) l1 l2 := by
 constructor <;> lia
theorem sS_zip {id : Str} {p : Pos} {e e' : Expr} {a b : IExpr} (hg : IsGlo sc id (.ty "zip")) (h : Ok sc e a) (h' : Ok sc e' b) : OkS sc (.Call (.Name id p) [e, e'] [] pos) (.zip a b) := fun {n C fr g tg Q K} G q I k =>
 call_ty hg (.cons h (.one h')) G (evs2 q) I fun vs xs g₁ q0 hvs I X => q0.elim fun u z => z.elim fun v z => by
  obtain ⟨rfl, qq⟩ := z
  induction qq with
  | mk e e' q =>
   refine hvs.c fun y r hy ht => ht.c1 fun y' hy' => VRef.casesOn hy fun {l1} ha1 => VRef.casesOn hy' fun {l2} ha2 => listAt I e ha1 fun us m1 hl1 _ _ _ => listAt I e' ha2 fun ws m2 hl2 _ _ _ => ?_
   refine call_zip_2 (isList_of hl1) (isList_of hl2) fun h' z1 z2 z3 z4 z5 zs zk => wpAny_pyIter_zip z1 ?_
   have fr5 : ∀ a ∈ [g₁.s.heap.objs.size + 4, g₁.s.heap.objs.size + 2, g₁.s.heap.objs.size + 3, g₁.s.heap.objs.size, g₁.s.heap.objs.size + 1], g₁.s.heap.get? a = none := fun a hm => Heap.get?_none_of_le (by
    simp only [List.mem_cons, List.mem_nil_iff, or_false] at hm
    rcases hm with rfl | rfl | rfl | rfl | rfl <;> first | exact Nat.le_add_right _ _ | exact Nat.le_refl _)
   exact k _ _ _ _ _ ⟨g₁.α, g₁.h, { g₁.s with heap := h' }⟩ q (src_zip G.A.handled ha1 ha2 (zip_apart (Heap.lt_size hl1) (Heap.lt_size hl2))) ⟨z1, z2, z3, z4, z5⟩ (fun a hm => InvH.free I (fr5 a hm)) (fun a hm => X.fresh (fr5 a hm)) (InvH.keeps I zk) (X.trans (ExtX.keeps zk))
end
end Mine
namespace Mine
open PySem PySem.W PySem.Calls PyProof.Rows PyProof.V PySem.Spec PySem.SeqAt
section
variable (sc : Scope)
noncomputable def OkSt (st : Stmt) (ist : IStmt) : Prop := ∀ {n : Nat} {C : Cx} {fr : Fm} {g : Sg} {Q : AFlow → Fm → Hp → Prop} {K : Flow → Shared → Prop}, Gd n C sc → stStep (go n) ist fr g.h Q → Inv C fr g → KX C g Q K → C.wp (exec st C.env) K g.s
noncomputable def OkB (b : List Stmt) (ib : List IStmt) : Prop := ∀ {n : Nat} {C : Cx} {fr : Fm} {g : Sg} {Q : AFlow → Fm → Hp → Prop} {K : Flow → Shared → Prop}, Gd n C sc → (go n).ex ib fr g.h Q → Inv C fr g → KX C g Q K → C.wp (execs b C.env) K g.s
noncomputable def OkTg (e : Expr) (t : ITgt) : Prop := (∀ {n : Nat} {C : Cx} {fr : Fm} {g : Sg} {x : AV} {v : Value} {Q : Fm → Hp → Prop} {K : Shared → Prop}, Gd n C sc → setTgt (go n) t x fr g.h Q → VR g.α x v → Inv C fr g → KF C g Q K → C.wp (assign e C.env v) (fun _ s => K s) g.s) ∧
 ∀ rest env, assignEach (e :: rest) env = (false, assign e env) :: assignEach rest env
end
section
variable {n : Nat} {C : Cx} {sc : Scope} {fr : Fm} {g : Sg} {pos : Pos} {e e' : Expr} {a c o i : IExpr} {op : BOp}
theorem exs_snd {b : List Stmt} {ib : List IStmt} (r : LR (OkSt sc) b ib) (G : Gd n C sc) {fr : Fm} {g : Sg} {Q : AFlow → Fm → Hp → Prop} {K : Flow → Shared → Prop} (q : exStep (go n) ib fr g.h Q) (I : Inv C fr g) (k : KX C g Q K) : C.wp (execs b C.env) K g.s := by
 induction r generalizing fr g with
 | nil => exact wpAny_execs_nil (k .next .next _ _ q rfl I .refl)
 | cons h _ ih =>
  refine MonX.casesOn q fun R' q kR' => wpAny_execs_cons (h G q I fun f fl fr₁ g₁ q hf I X => ?_)
  have q := kR' _ _ _ q
  induction fl with
  | next => exact (show .next = f from hf) ▸ ih q I (k.up X)
  | brk => exact (show .brk = f from hf) ▸ k .brk .brk fr₁ g₁ q rfl I X
  | cont => exact (show .cont = f from hf) ▸ k .cont .cont fr₁ g₁ q rfl I X
  | ret v => exact (show ∃ w, f = .ret w ∧ VR g₁.α v w from hf).elim fun w z => z.1.symm ▸ k (.ret w) (.ret v) fr₁ g₁ q ⟨w, rfl, z.2⟩ I X
theorem okB {b : List Stmt} {ib : List IStmt} (r : LR (OkSt sc) b ib) : OkB sc b ib := fun {n C fr g Q K} G q I k => by
 induction n with
 | zero => exact q.elim
 | succ n => exact MonX.casesOn q fun R q kR => exs_snd r G.dn q I fun f fl fr' g' q => k f fl fr' g' (kR _ _ _ q)
theorem sT_var {iv : IVar} (h : OkV sc e iv) : OkTg sc e (.var iv) := h
theorem sT_attr {name : Str} {x : Nat} (hn : name = nm x) (hx : x ∈ attrs) (h : Ok sc e o) : OkTg sc (.Attribute e name pos) (.attr o x) := ⟨fun {n C fr g x' v Q K} G q hv I k => by
 subst hn
 show wpAny C.M C.A (assign (.Attribute e (nm x) pos) C.env v) _ FF g.s
 rw [assign_Attribute]
 exact wpAny_bind (wpAny_holding (h.ev G q I fun ov o g₁ q ho I X => wpAny_bind (wpAny_standAt (wpAny_bind (wpAny_holding (setattr_snd (Q := fun h => Q fr h) (K := fun s => _) G hx q ho (hv.mono X.pre) I fun g₂ q I Y => wpAny_release' (k fr g₂ q I (X.trans Y)))))))), fun _ _ => rfl⟩
theorem sT_idx {s : Expr} (h : Ok sc e o) (hi : Ok sc s i) : OkTg sc (.Subscript e s pos) (.idx o i) := ⟨fun {n C fr g x v Q K} G q hv I k => by
 show wpAny C.M C.A (assign (.Subscript e s pos) C.env v) _ FF g.s
 rw [assign_Subscript]
 exact wpAny_bind (wpAny_holding (h.ev G q I fun ov o g₁ q ho I X => wpAny_bind (wpAny_holding (hi.ev G q I fun iv i g₂ q hi I Y => wpAny_bind (wpAny_standAt (wpAny_bind (wpAny_holding (setItem_snd (Q := fun h => Q fr h) (K := fun s => _) q (ho.mono Y.pre) hi (hv.mono (X.pre.trans Y.pre)) I fun g₃ q I Z => wpAny_release' (k fr g₃ q I (X.trans (Y.trans Z))))))))))), fun _ _ => rfl⟩
theorem tgts_snd {es : List Expr} {ts : List ITgt} (r : LR (OkTg sc) es ts) {x : AV} {v : Value} {Q : Fm → Hp → Prop} {K : Shared → Prop} (G : Gd n C sc) (q : setTgts (go n) x ts fr g.h Q) (hv : VR g.α x v) (I : Inv C fr g) (k : KF C g Q K) : C.wp (assignAll v ((assignEach es C.env).map (·.2))) (fun _ s => K s) g.s := by
 induction r generalizing fr g Q with
 | nil => exact wpAny_pure (k fr g q I .refl)
 | @cons e t es ts h r ih =>
  rw [h.2]
  cases r with
  | nil => exact h.1 G q hv I k
  | cons h2 r =>
   rw [h2.2] at ih ⊢
   exact wpAny_bind (wpAny_holding (h.1 G q hv I fun fr₁ g₁ q I X => ih q (hv.mono X.pre) I (k.up X)))
theorem sS_asg {ts : List Expr} {ts' : List ITgt} (r : LR (OkTg sc) ts ts') (h : Ok sc e a) (h1 : ∀ env, swapsWithSole ts e pos.line env = pure false) (h2 : ∀ env, swappedStores ts e env = pure none) : OkSt sc (.Assign ts e pos) (.asg ts' a) := fun G q I k =>
 wpAny_Assign_stores (h.ev G q I fun v x g₁ q hv I X => tgts_snd r G q hv I fun fr₂ g₂ q I Y => k .next .next fr₂ g₂ q rfl I (X.trans Y)) (h1 _) (h2 _)
theorem aug_snd {old v : Value} {x y : AV} {P : AV → Prop} {K : Value → Shared → Prop} (q : augop P op x y) (hx : VR g.α x old) (hy : VR g.α y v) (k : ∀ z u tk, P z → VR g.α z u → K u { g.s with toks := tk }) : C.wp (inplaceOp (opOf op) old v) K g.s := by
 induction q with
 | add q => exact VInt.casesOn hx (VInt.casesOn hy (wpAny_iadd_int (k _ _ _ q vint)))
 | sub q => exact VInt.casesOn hx (VInt.casesOn hy (AutoIntOps.isub_0 (k _ _ _ q vint)))
theorem sS_aug {id : Str} {p : Pos} {x : Nat} (hl : IsLoc sc id x) (h : Ok sc e a) : OkSt sc (.AugAssign (.Name id p) (opOf op) e pos) (.aug (.loc x) op a) := fun {n C fr g Q K} G q I k =>
 wpAny_AugAssign_Name (load_loc G.E hl q I fun x₀ old q hold => h.ev G q I fun v y g₁ q hv I X => aug_snd q (hold.mono X.pre) hv fun z u tk q hz =>
  setLoc_snd (g := ⟨g₁.α, g₁.h, { g₁.s with toks := tk }⟩) (Q := fun fr h => Q .next fr h) G hl q hz (I.to rfl) fun fr₂ g₂ q I Y => k .next .next fr₂ g₂ q rfl I (X.trans (ExtX.trans ExtX.same Y)))
theorem sS_augAttr {name : Str} {p : Pos} {x : Nat} {b : IExpr} (hn : name = nm x) (hx : x ∈ attrs) (h : Ok sc e b) (h' : Ok sc e' a) : OkSt sc (.AugAssign (.Attribute e name p) (opOf op) e' pos) (.augAttr b x op a) := fun {n C fr g Q K} G q I k => by
 subst hn
 exact wpAny_AugAssign_AttributeAny (h.ev G q I fun ov o g₁ q ho I X => getattr_snd (K := fun v s => _) G hx q ho I fun old x₀ g₂ q hold I Y => h'.ev G q I fun v y g₃ q hv I Z => aug_snd q (hold.mono Z.pre) hv fun z u tk q hz =>
  setattr_snd (g := ⟨g₃.α, g₃.h, { g₃.s with toks := tk }⟩) (Q := fun h => Q .next fr h) (K := fun s => _) G hx q (ho.mono (Y.pre.trans Z.pre)) hz (I.to rfl) fun g₄ q I U => k .next .next fr g₄ q rfl I (X.trans (Y.trans (Z.trans (ExtX.trans ExtX.same U)))))
theorem inter_no (E : EnvH C.B C.env sc) : interactive C.env = false := by
 unfold interactive
 rw [kindE E]; rfl
end
end Mine
namespace Mine
open PySem PySem.W PySem.Calls PyProof.Rows PyProof.V PySem.Spec PySem.SeqAt
section
variable {n : Nat} {C : Cx} {sc : Scope} {fr : Fm} {g : Sg} {pos : Pos} {e e' : Expr} {a c o i : IExpr} {b b' : List Stmt} {x y : List IStmt}
theorem Cx.wp.E {β : Type} {m : Sem β} {K : β → Shared → Prop} {s : Shared} {E : Value → Shared → Prop} (h : C.wp m K s) : wpAny (model pw C.w) C.A m K E s := wpAny_mono h (fun _ _ z => z) fun _ _ z => z.elim
theorem sS_expr (h : Ok sc e a) (hs : ∀ env, swapsWith e none pos.line env = pure false) : OkSt sc (.Expr e pos) (.expr a) := fun G q I k => wpAny_Expr_any (h.ev G q I fun v x g₁ q _ I X => k .next .next _ g₁ q rfl I X) (inter_no G.E) (hs _)
theorem sS_ret (h : Ok sc e a) : OkSt sc (.Return (some e) pos) (.ret a) := fun G q I k => wpAny_Return_some (h.ev G q I fun v x g₁ q hv I X => k (.ret v) (.ret x) _ g₁ q ⟨v, rfl, hv⟩ I X)
theorem sS_brk : OkSt sc (.Break pos) .brk := fun G q I k => wpAny_Break (k .brk .brk _ _ q rfl I .refl)
theorem sS_cont : OkSt sc (.Continue pos) .cont := fun G q I k => wpAny_Continue (k .cont .cont _ _ q rfl I .refl)
theorem sS_fail {st : Stmt} : OkSt sc st .fail := fun G q I k => q.elim
theorem sS_ite (h : Ok sc e c) (hb : OkB sc b x) (hb' : OkB sc b' y) : OkSt sc (.If e b b' pos) (.ite c x y) := fun G q I k => wpAny_If (h.ts G q I fun t g₁ q I X => by
 induction t with
 | true => exact hb G q I (k.up X)
 | false => exact hb' G q I (k.up X))
theorem sS_iteW {id : Str} {p p' p'' pq : Pos} {m v : Nat} (hl : IsLoc sc id v) (h : Ok sc e a) (hb : OkB sc b x) : OkSt sc (.If (.Compare (.NamedExpr (.Name id p) e p') [.Is] [.Constant .none m p''] pq) b [] pos) (.iteW v a x) := fun {n C fr g Q K} G q I k =>
 wpAny_If (isTrue_cmp rfl (wpAny_NamedExpr (h.ev G q I fun u y g₁ q hu I X => wpAny_assign_Name (setLoc_snd (Q := fun fr' h => fr' = fr.set v y ∧ h = g₁.h) G hl ⟨rfl, rfl⟩ hu I fun fr₂ g₂ z I Y => wpAny_Constant_none (is_none (Q := fun w s => wpAny C.M C.A (PySem.truthy w) _ FF s) (wpAny_truthy_bool (by
  obtain ⟨rfl, z⟩ := z
  rw [isN hu]
  have z := z.symm
  induction q with
  | none q => exact hb G (Q := Q) (g := g₂) (z ▸ q) I (k.up (X.trans Y))
  | some hn q => rw [hn]; exact wpAny_execs_nil (k .next .next _ g₂ (z ▸ q) rfl I (X.trans Y)))))))))
theorem sS_del {s : Expr} {p : Pos} (h : Ok sc e o) (hi : Ok sc s i) : OkSt sc (.Delete [.Subscript e s p] pos) (.del o i) := fun {n C fr g Q K} G q I k => wpAny_Delete (by
 show wpAny C.M C.A (do (do
   let ov ← eval e C.env
   let iv ← holding [ov] (eval s C.env)
   standAt p
   holding [ov, iv] (delItem ov iv)
   release [ov, iv] []); deleteEach [] C.env) _ FF g.s
 exact wpAny_bind (wpAny_bind (h.ev G q I fun ov o g₁ q ho I X => wpAny_bind (wpAny_holding (hi.ev G q I fun iv i g₂ q hi I Y => wpAny_bind (wpAny_standAt (wpAny_bind (wpAny_holding (delItem_snd (Q := fun h => Q .next fr h) (K := fun s => _) q (ho.mono Y.pre) hi I fun g₃ q I Z => wpAny_release' (wpAny_pure (k .next .next fr g₃ q rfl I (X.trans (Y.trans Z)))))))))))))
inductive WhI (C : Cx) (g₀ : Sg) (L : Nat → Fm → Hp → Prop) (m : Nat) (s : Shared) : Prop | mk (fr : Fm) (g : Sg) (e : g.s = s) (q : L m fr g.h) (I : Inv C fr g) (X : Ext C g₀ g) : WhI C g₀ L m s
theorem sS_while (h : Ok sc e c) (hb : OkB sc b x) (hb' : OkB sc b' y) : OkSt sc (.While e b b' pos) (.while c x y) := fun {n C fr g Q K} G q I k =>
 wpAny_While (codeAny_whileLoop (WhI C g (loopW (go n) c x y Q)) (fun m s₁ z => WhI.casesOn z fun fr₁ g₁ e₁ q I₁ X₁ => by
  subst e₁
  cases m with
  | zero => exact q.elim
  | succ m =>
   refine Cx.wp.E (h.ts G q I₁ fun t g₂ q I₂ X₂ => ?_)
   induction t with
   | true =>
    refine Cx.wp.E (hb G q I₂ fun f fl fr₃ g₃ q hf I₃ X₃ => ?_)
    have X := X₁.trans (X₂.trans X₃)
    induction fl with
    | next => exact (show .next = f from hf) ▸ ⟨m, Nat.lt_succ_self m, fr₃, g₃, rfl, q, I₃, X⟩
    | brk => exact (show .brk = f from hf) ▸ k .next .next fr₃ g₃ q rfl I₃ X
    | cont => exact (show .cont = f from hf) ▸ ⟨m, Nat.lt_succ_self m, fr₃, g₃, rfl, q, I₃, X⟩
    | ret v => exact (show ∃ w, f = .ret w ∧ VR g₃.α v w from hf).elim fun w z => z.1.symm ▸ k (.ret w) (.ret v) fr₃ g₃ q ⟨w, rfl, z.2⟩ I₃ X
   | false => exact Cx.wp.E (hb' G q I₂ (k.up (X₁.trans X₂)))) wB ⟨fr, g, rfl, q, I, .refl⟩)
end
end Mine
namespace Mine
open PySem PySem.W PySem.Calls PyProof.Rows PyProof.V PySem.Spec PySem.SeqAt
theorem drop_none {α : Type} {l : List α} {i : Nat} (e : l[i]? = none) : l.drop i = [] := List.drop_eq_nil_of_le (List.getElem?_eq_none_iff.mp e)
theorem drop_some {α : Type} {l : List α} {i : Nat} {x : α} (e : l[i]? = some x) : l.drop i = x :: l.drop (i + 1) := (List.getElem?_eq_some_iff.mp e).elim fun hl he => by rw [List.drop_eq_getElem_cons hl, he]
section
variable {n : Nat} {C : Cx} {sc : Scope} {fr : Fm} {g : Sg} {pos : Pos}
inductive ForI (C : Cx) (g₀ : Sg) (L : List Item → Fm → Hp → Prop) (items : List Item) (St : Nat → Heap → Prop) (fp α₂ : List Addr) (m : Nat) (s : Shared) : Prop
 | mk (i : Nat) (fr : Fm) (g : Sg) (e : g.s = s) (hm : i + m = items.length + 1) (q : L (items.drop i) fr g.h) (st : St i g.s.heap) (p : α₂ <+: g.α) (of : Off C g.α fp) (I : Inv C fr g) (X : Ext C g₀ g) : ForI C g₀ L items St fp α₂ m s
theorem step_m {i m n : Nat} (h : i + m = n + 1) (l : i < n) : ∃ m', m' < m ∧ i + 1 + m' = n + 1 := ⟨m - 1, by lia, by lia⟩
noncomputable def forL (n : Nat) (x : List IStmt) (pat : IPat) (chk : Hp → Prop) (Q : AFlow → Fm → Hp → Prop) : List Item → Fm → Hp → Prop := loopF chk (fun it fr h Q => bindPat fr h (fun fr h => (go n).ex x fr h Q) pat it) Q
theorem loopChk {chk : Hp → Prop} {t : Item → Fm → Hp → (AFlow → Fm → Hp → Prop) → Prop} {Q : AFlow → Fm → Hp → Prop} {l : List Item} {h : Hp} (q : loopF chk t Q l fr h) : chk h := by
 induction l with
 | nil => exact q.1
 | cons _ _ => exact q.1
theorem sS_for {tg it : Expr} {b : List Stmt} {pat : IPat} {src : ISrc} {x : List IStmt} (hs : ∀ env v, foldedSetIterable it env v = pure v) (hp : OkP sc tg pat) (h : OkS sc it src) (hb : OkB sc b x) : OkSt sc (.For tg it b [] pos) (.for pat src x) := fun {n C fr g Q K} G q I k => by
 refine wpAny_For (h G (tg := tg) q I fun iv items chk fp St g₂ q S hst of hf I₂ X₂ => ?_) (hs _)
 refine codeAny_forLoop_any (ForI C g (forL n x pat chk Q) items St fp g₂.α) (fun m s₃ z => ForI.casesOn z fun i fr₃ g₃ e₃ hm q₃ st₃ p₃ of₃ I₃ X₃ => ?_) (items.length + 1) ⟨0, fr, g₂, rfl, Nat.zero_add _, q, hst, List.prefix_refl _, of, I₂, X₂⟩
 subst e₃
 refine wpAny_mono (S.next (env := C.env) (QN := fun s' => C.wp (execs [] C.env) (fun f s => K f s) s') (QS := fun v s' => C.wp (assign tg C.env v) (fun _ s₂ => C.wp (execs b C.env) (fun f s₅ => match f with
      | .next | .cont => ∃ m', m' < m ∧ ForI C g (forL n x pat chk Q) items St fp g₂.α m' s₅
      | .brk => K .next s₅
      | .ret v => K (.ret v) s₅) s₂) s') p₃ st₃ (loopChk q₃) I₃ (fun y e hy => ?_) (fun e s' t => ?_) (fun y v s' e t hit st' => ?_)) (fun rr s₄ z => ?_) fun _ _ z => z.elim
 ·rw [drop_some e] at q₃
  exact MonX.casesOn q₃.2 fun _ q _ => hp.2 q hy
 ·rw [drop_none e] at q₃
  exact wpAny_execs_nil (k .next .next fr₃ ⟨g₃.α, g₃.h, s'⟩ q₃.2 rfl (I₃.off of₃ (S.live st₃) t) (ExtX.off X₃ hf t))
 ·rw [drop_some e] at q₃
  refine MonX.casesOn q₃.2 fun R q kR => hp.1 (g := ⟨g₃.α, g₃.h, s'⟩) G q hit (I₃.off of₃ (S.live st₃) t) fun fr₅ g₅ q I₅ X₅ => hb G q I₅ fun f fl fr₆ g₆ q hfl I₆ X₆ => ?_
  have X56 : Ext C ⟨g₃.α, g₃.h, s'⟩ g₆ := X₅.trans X₆
  have lv := S.live st'
  have of₆ := Off.ext (g := ⟨g₃.α, g₃.h, s'⟩) of₃ lv X56
  have st₆ := S.mono st' (Off.keep (g := ⟨g₃.α, g₃.h, s'⟩) of₃ X56)
  have X : Ext C g g₆ := ExtX.trans (ExtX.off (h' := g₃.h) X₃ hf t) X56
  have q := kR _ _ _ q
  have go : (forL n x pat chk Q) (items.drop (i + 1)) fr₆ g₆.h → ∃ m', m' < m ∧ ForI C g (forL n x pat chk Q) items St fp g₂.α m' g₆.s := fun q => by
   exact (step_m hm (List.getElem?_eq_some_iff.mp e).1).elim fun m' z => ⟨m', z.1, i + 1, fr₆, g₆, rfl, z.2, q, st₆, p₃.trans X56.pre, of₆, I₆, X⟩
  induction fl with
  | next => exact (show .next = f from hfl) ▸ go q
  | cont => exact (show .cont = f from hfl) ▸ go q
  | brk => exact (show .brk = f from hfl) ▸ k .next .next fr₆ g₆ q rfl I₆ X
  | ret v => exact (show ∃ w, f = .ret w ∧ VR g₆.α v w from hfl).elim fun w z => z.1.symm ▸ k (.ret w) (.ret v) fr₆ g₆ q ⟨w, rfl, z.2⟩ I₆ X
 ·cases rr with
  | none => exact wpAny_mono z (fun _ _ z => z) fun _ _ z => z.elim
  | some v => exact wpAny_mono z (fun _ _ z => wpAny_mono z (fun _ _ z => wpAny_mono z (fun f _ z => by cases f <;> exact z) fun _ _ z => z.elim) fun _ _ z => z.elim) fun _ _ z => z.elim
end
end Mine
namespace Mine
open PySem PySem.W PySem.Calls PyProof.Rows PyProof.V PySem.Spec PySem.SeqAt
section
variable {n : Nat} {C : Cx} {sc : Scope} {fr : Fm} {g : Sg} {pos apos : Pos}
theorem eval_meth0 (e : Expr) (name : Str) (apos pos : Pos) (env : Env) : eval (.Call (.Attribute e name apos) [] [] pos) env =
  (do let ov ← attributeBase e name env (eval e env); standAt apos.atName; methodCall e name apos pos env ov 0 [] []) := rfl
theorem sS_values {e : Expr} {a : IExpr} (hb : PlainBase e) (hline : apos.endLine = pos.line) (h : Ok sc e a) : OkS sc (.Call (.Attribute e "values" apos) [] [] pos) (.values a) := fun {n C fr g tg Q K} G q I k => by
 rw [eval_meth0, hb]
 refine wpAny_bind (h.ev G q I fun u v g₁ q hv I X => wpAny_bind (wpAny_standAt ?_))
 induction q with
 | @mk j es ver e q =>
  refine VRef.casesOn hv fun {d} hd => dictAt I e hd fun kvs hdd _ _ => ?_
  unfold methodCall
  rw [show methodCallForm 0 [] [] = true from rfl]
  refine wpAny_bind (wpAny_holding ?_)
  show wpAny C.M C.A (getMethod (.ref d) "values" _) _ _ _
  refine getMethod_builtin (name := "values") hdd.dictOf.typeIs F.plainAttrs_dict F.slot_dict_values F.type_dict_values hdd.dictOf.mapOf.noDict ?_
  dsimp only
  rw [callPos hline]
  refine wpAny_bind (wpAny_pure (callWith_of (P := fun _ => True) rfl (fun h' _ => ⟨.machine, .inr (.inl rfl), Looks.now⟩) ?_))
  refine args_snd (pos := pos) (es := []) (kws := []) (ks := []) (Q := fun xs ks h => xs = [] ∧ ks = [] ∧ h = g₁.h) .nil .nil G ⟨rfl, rfl, rfl⟩ I fun ar xs ks g₂ q2 hvs hks I Y => ⟨trivial, ?_⟩
  obtain ⟨pos, kw⟩ := ar
  obtain ⟨rfl, rfl, q2⟩ := q2
  refine hks.n (C := fun kw => wpAny C.M C.A (call (.builtin _) (.ref d :: pos) kw) _ FF g₂.s) (hvs.n (C := fun pos => wpAny C.M C.A (call (.builtin _) (.ref d :: pos) []) _ FF g₂.s) ?_)
  rw [← q2] at e q
  have hd := pre_get Y.pre hd
  have ne := sysNe I G.W e nofun hd
  refine dictAt I e hd fun kvs' hdd' _ _ => call_meetsIn F.slot_dict_values hdd'.dictOf.typeIs F.entry_dict_values (F.args_dict_values_1 _) (meets_dict_values (intKind pw C.w) d ne) ⟨⟨kvs', dictOf_at hdd'⟩, ?_⟩
  have kp : ∀ b' o, g₂.s.heap.get? b' = some o → (g₂.s.heap.push { cls := .type "dict_values", data := .fields #[.ref d] }).get? b' = some o := fun b' o e => Heap.get?_push_of_some _ e
  have I3 : Inv C fr ⟨g₂.α, g₂.h, { g₂.s with heap := g₂.s.heap.push { cls := .type "dict_values", data := .fields #[.ref d] } }⟩ := InvH.keeps I kp
  refine dictAt I3 e hd fun kvs3 hdd3 hr3 _ => wpAny_pyIter_values (s := { g₂.s with heap := g₂.s.heap.push { cls := .type "dict_values", data := .fields #[.ref d] } }) ⟨_, Heap.get?_push_size _ rfl, rfl, rfl⟩ hdd3 ?_
  exact k.one I3 (X.trans (Y.trans (ExtX.keeps kp))) q (src_values G.A.handled hd) ⟨_, Heap.get?_push_size _ rfl, rfl, by rw [hr3.length]; rfl⟩
end
end Mine
namespace Mine
open PySem PySem.W PySem.Calls PyProof.Rows PyProof.V PySem.Spec PySem.SeqAt
structure Ou where
 ac : Addr
 Lo : Addr
 dd : Data
 αb : List Addr
inductive CLst (g : Sg) (ac : Addr) (acc : List AV) : Prop | mk {vs : Array Value} {m : Nat} (e : g.s.heap.get? ac = some ⟨.type "list", none, .seq vs m, #[]⟩) (r : LR (VR g.α) acc vs.toList) (sz : acc.length ≤ 200000) : CLst g ac acc
inductive HasD (s : Heap) (a : Addr) (d : Data) : Prop | mk {o : Obj} (e : s.get? a = some o) (ed : o.data = d) : HasD s a d
structure CI (C : Cx) (U : Ou) (fr : Fm) (g : Sg) (acc : List AV) : Prop where
 inv : Inv C fr g
 lst : CLst g U.ac acc
 off : Free C g.α U.ac
 pre : U.αb <+: g.α
 lo : U.Lo ∉ g.α
 loL : U.Lo ≠ C.L
 loT : U.Lo ≠ tabA
 loA : U.Lo ≠ U.ac
 out : HasD g.s.heap U.Lo U.dd
noncomputable abbrev XC (C : Cx) (U : Ou) : List Addr := [C.L, U.ac, U.Lo]
noncomputable def KC (C : Cx) (U : Ou) (g : Sg) (Q : Fm → Hp → List AV → Prop) (K : Shared → Prop) : Prop := ∀ fr g' acc, Q fr g'.h acc → CI C U fr g' acc → ExtX (XC C U) (frs C.A) g g' → K g'.s
theorem ExtX.wide {X X' F : List Addr} {g g' : Sg} (x : ExtX X F g g') (h : ∀ a ∈ X, a ∈ X' ∨ g.s.heap.get? a = none) : ExtX X' F g g' :=
 ⟨x.pre, x.new, fun b o e => Kept.casesOn (x.at_ b o e) fun o' e' k => ⟨o', e', fun n1 n2 n3 => k n1 (fun z => (h b z).elim n2 (some_ne e)) n3⟩, x.gens, x.os⟩
section
variable {n : Nat} {C : Cx} {sc : Scope} {U : Ou} {fr fr' : Fm} {g g' : Sg} {acc : List AV}
theorem Ext.up3 (x : Ext C g g') : ExtX (XC C U) (frs C.A) g g' := ExtX.wide x fun a z => .inl (List.mem_singleton.mp z ▸ .head _)
theorem CI.ext (c : CI C U fr g acc) (I : Inv C fr' g') (x : Ext C g g') : CI C U fr' g' acc :=
 CLst.casesOn c.lst fun e r sz => HasD.casesOn c.out fun eo d =>
  have nL : U.Lo ∉ [C.L] := fun z => c.loL (List.mem_singleton.mp z)
  ⟨I, ⟨x.keep c.off.α (fun z => c.off.L (List.mem_singleton.mp z)) c.off.T c.off.F e, VR.monoL x.pre r, sz⟩, ⟨x.notin c.off.α e, c.off.L, c.off.F, c.off.T, c.off.B⟩, c.pre.trans x.pre, x.notin c.lo eo, c.loL, c.loT, c.loA, (x.keepF c.lo nL c.loT eo).elim fun sl z => ⟨z, d⟩⟩
theorem CI.keepOff {fp : List Addr} {s' : Shared} (c : CI C U fr g acc) (of : Off C g.α fp) (lv : ∀ a ∈ fp, Stands g.s.heap a) (ha : U.ac ∉ fp) (hl : U.Lo ∉ fp) (t : Turn fp g.s s') : CI C U fr ⟨g.α, g.h, s'⟩ acc :=
 CLst.casesOn c.lst fun e r sz => HasD.casesOn c.out fun eo d => ⟨c.inv.off of lv t, ⟨t.1 _ _ ha e, r, sz⟩, c.off, c.pre, c.lo, c.loL, c.loT, c.loA, ⟨t.1 _ _ hl eo, d⟩⟩
noncomputable abbrev testsOf (ifs : List Expr) (env : Env) : Sem Bool := forIn ifs true fun c r => if r = true then do let ok ← isTrue c env (eval c env); pure (ForInStep.yield ok) else pure (ForInStep.yield r)
theorem tests_no {env : Env} {K : Bool → Shared → Prop} {s : Shared} {A : Around} {M : Model} (k : K false s) : ∀ es : List Expr, wpAny M A (forIn es false fun c r => if r = true then do let ok ← isTrue c env (eval c env); pure (ForInStep.yield ok) else pure (ForInStep.yield r)) K FF s
 | [] => wpAny_pure k
 | e :: es => by rw [List.forIn_cons]; exact wpAny_bind (wpAny_pure (tests_no k es))
theorem tests_snd {ifs : List Expr} {cs : List IExpr} {Q : Bool → Hp → Prop} {K : Bool → Shared → Prop} (r : LR (Ok sc) ifs cs) (G : Gd n C sc) (q : tsts (go n) cs fr g.h Q) (I : Inv C fr g) (k : KT C fr g Q K) : C.wp (testsOf ifs C.env) K g.s := by
 induction r generalizing g with
 | nil => exact wpAny_tests_nil (k true g q I .refl)
 | cons h _ ih =>
  unfold Cx.wp testsOf
  rw [List.forIn_cons]
  refine wpAny_bind (wpAny_bind (h.ts (Q := fun b h => if b then tsts (go n) _ fr h Q else Q false h) G q I fun b g₁ q I X => wpAny_pure ?_))
  induction b with
  | true => exact ih q I (k.up X)
  | false => exact tests_no (k false g₁ q I X) _
noncomputable def restSem (elt : Expr) (gens : List Comprehension) (scope : Scope) (pos : Pos) (depth : Nat) (acc : Value) (env : Env) : List Comprehension → Sem Unit
 | [] => do let _ ← call (.builtin "list.append") [acc, ← eval elt env]
 | ⟨_, it2, _, _⟩ :: _ => do
  let x ← eval it2 env
  standAt it2.pos
  let x ← foldedSetIterable it2 env x
  let _ ← runOwn (.compStart (.ListComp elt gens scope pos) (depth + 1) (← holding [x] (pyIter x)) acc env) env
noncomputable def turnSem (elt tg it' : Expr) (ifs : List Expr) (gens rest : List Comprehension) (scope : Scope) (pos : Pos) (depth : Nat) (it acc : Value) (env : Env) : Sem PySem.Fin := standAt it'.pos >>= fun _ => pyNext it >>= fun r => match r with
   | none => pure (.done .next)
   | some v => letOwnedTupleGo tg it v >>= fun _ => assign tg env v >>= fun _ => testsOf ifs env >>= fun ok =>
    if ok = true then restSem elt gens scope pos depth acc env rest >>= fun _ => again (.compLoop (.ListComp elt gens scope pos) depth it acc env) else again (.compLoop (.ListComp elt gens scope pos) depth it acc env)
theorem turn_eq {elt tg it' : Expr} {ifs : List Expr} {gens rest : List Comprehension} {scope : Scope} {pos : Pos} {depth : Nat} {it acc : Value} {env : Env} (hg : gens[depth]? = some ⟨tg, it', ifs, 0⟩) (hd : gens[depth + 1]? = rest[0]?) (ha : ∀ g ∈ rest, g.is_async = 0) :
  compTurn (.ListComp elt gens scope pos) depth it acc env = turnSem elt tg it' ifs gens rest scope pos depth it acc env := by
 unfold compTurn
 cases rest with
 | nil => simp only [hg, hd]; rfl
 | cons g rest =>
  obtain ⟨tg2, it2, ifs2, as⟩ := g
  obtain rfl : as = 0 := ha _ (.head _)
  simp only [hg, hd, List.getElem?_cons_zero]
  simp [turnSem, restSem, testsOf] <;> rfl
end
end Mine
namespace Mine
open PySem PySem.W PySem.Calls PyProof.Rows PyProof.V PySem.Spec PySem.SeqAt
noncomputable def turnC (n : Nat) (pat : IPat) (cs : List IExpr) (B : Fm → Hp → List AV → (Fm → Hp → List AV → Prop) → Prop) (it : Item) (fr : Fm) (h : Hp) (acc : List AV) (Q : Fm → Hp → List AV → Prop) : Prop := bindPat fr h (fun fr h => tsts (go n) cs fr h fun b h => if b then B fr h acc Q else Q fr h acc) pat it
noncomputable def compL (n : Nat) (pat : IPat) (cs : List IExpr) (B : Fm → Hp → List AV → (Fm → Hp → List AV → Prop) → Prop) (chk : Hp → Prop) (Q : Fm → Hp → List AV → Prop) : List Item → Fm → Hp → List AV → Prop := loopC chk (turnC n pat cs B) Q
inductive CLp (C : Cx) (U : Ou) (g₀ : Sg) (L : List Item → Fm → Hp → List AV → Prop) (items : List Item) (St : Nat → Heap → Prop) (fp α₂ : List Addr) (m : Nat) (s : Shared) : Prop
 | mk (i : Nat) (fr : Fm) (g : Sg) (acc : List AV) (e : g.s = s) (hm : i + m = items.length + 1) (q : L (items.drop i) fr g.h acc) (st : St i g.s.heap) (p : α₂ <+: g.α) (of : Off C g.α fp) (c : CI C U fr g acc) (X : ExtX (XC C U) (frs C.A) g₀ g) : CLp C U g₀ L items St fp α₂ m s
section
variable {n : Nat} {C : Cx} {sc : Scope} {U : Ou} {fr fr' : Fm} {g g₀ g' : Sg} {acc : List AV}
theorem loopCk {chk : Hp → Prop} {t : Item → Fm → Hp → List AV → (Fm → Hp → List AV → Prop) → Prop} {Q : Fm → Hp → List AV → Prop} {l : List Item} {h : Hp} (q : loopC chk t Q l fr h acc) : chk h := by
 induction l with
 | nil => exact q.1
 | cons _ _ => exact q.1
theorem compLoop_snd {elt tg it' : Expr} {gens rest : List Comprehension} {scope : Scope} {pos : Pos} {depth : Nat} {it : Value} {ifs : List Expr} {cs : List IExpr} {pat : IPat} {items : List Item} {chk : Hp → Prop} {fp : List Addr} {St : Nat → Heap → Prop} {Q : Fm → Hp → List AV → Prop} {K : Shared → Prop}
  {B : Fm → Hp → List AV → (Fm → Hp → List AV → Prop) → Prop} (G : Gd n C sc) (hp : OkP sc tg pat) (ci : LR (Ok sc) ifs cs)
  (heq : compTurn (.ListComp elt gens scope pos) depth it (.ref U.ac) C.env = turnSem elt tg it' ifs gens rest scope pos depth it (.ref U.ac) C.env)
  (hbody : ∀ {fr g acc} {Q : Fm → Hp → List AV → Prop} {K : Shared → Prop}, B fr g.h acc Q → CI C U fr g acc → KC C U g Q K → C.wp (restSem elt gens scope pos depth (.ref U.ac) C.env rest) (fun _ s => K s) g.s)
  (q : compL n pat cs B chk Q items fr g.h acc) (S : Src C g.α tg it items chk fp St) (st : St 0 g.s.heap) (of : Off C g.α fp) (hf : ∀ a ∈ fp, g₀.s.heap.get? a = none) (hac : U.ac ∉ fp) (hlo : U.Lo ∉ fp) (c : CI C U fr g acc) (X : ExtX (XC C U) (frs C.A) g₀ g) (k : KC C U g₀ Q K) :
  codeAny C.M C.A (.compLoop (.ListComp elt gens scope pos) depth it (.ref U.ac) C.env) (fun res s' => match res with | .ok _ => K s' | .error _ => False) g.s := by
 refine codeAny_loop rfl (CLp C U g₀ (compL n pat cs B chk Q) items St fp g.α) (fun m s₃ z => CLp.casesOn z fun i fr₃ g₃ acc₃ e₃ hm q₃ st₃ p₃ of₃ c₃ X₃ => ?_) (items.length + 1) ⟨0, fr, g, acc, rfl, Nat.zero_add _, q, st, List.prefix_refl _, of, c, X⟩
 subst e₃
 show wpAny C.M C.A ((compTurn (.ListComp elt gens scope pos) depth it (.ref U.ac) C.env).onRaise (fun x => do noteFrame x C.env; theTreesLotGoes x)) _ _ g₃.s
 refine wpAny_noted ?_
 rw [heq]
 refine wpAny_bind (wpAny_standAt (wpAny_bind (wpAny_mono (S.next (env := C.env) (QN := K) (QS := fun v s' => C.wp (assign tg C.env v) (fun _ s₄ => C.wp (testsOf ifs C.env) (fun ok s₅ =>
   (ok = true → C.wp (restSem elt gens scope pos depth (.ref U.ac) C.env rest) (fun _ s₆ => ∃ m', m' < m ∧ CLp C U g₀ (compL n pat cs B chk Q) items St fp g.α m' s₆) s₅) ∧
   (ok = false → ∃ m', m' < m ∧ CLp C U g₀ (compL n pat cs B chk Q) items St fp g.α m' s₅)) s₄) s') p₃ st₃ (loopCk q₃) c₃.inv (fun y e hy => ?_) (fun e s' t => ?_) (fun y v s' e t hit st' => ?_)) (fun rr s₄ z => ?_) fun _ _ z => z.elim)))
 ·rw [drop_some e] at q₃
  exact MonC.casesOn q₃.2 fun _ q _ => hp.2 q hy
 ·rw [drop_none e] at q₃
  exact k fr₃ ⟨g₃.α, g₃.h, s'⟩ acc₃ q₃.2 (c₃.keepOff of₃ (S.live st₃) hac hlo t) (X₃.off hf t)
 ·rw [drop_some e] at q₃
  have c₄ := c₃.keepOff of₃ (S.live st₃) hac hlo t
  have lv := S.live st'
  refine MonC.casesOn q₃.2 fun R q kR => hp.1 (g := ⟨g₃.α, g₃.h, s'⟩) G q hit c₄.inv fun fr₅ g₅ q I₅ X₅ => tests_snd ci G q I₅ fun ok g₆ q I₆ X₆ => ?_
  have X56 : Ext C ⟨g₃.α, g₃.h, s'⟩ g₆ := X₅.trans X₆
  have c₆ := c₄.ext I₆ X56
  have of₆ := Off.ext (g := ⟨g₃.α, g₃.h, s'⟩) of₃ lv X56
  have st₆ := S.mono st' (Off.keep (g := ⟨g₃.α, g₃.h, s'⟩) of₃ X56)
  have X : ExtX (XC C U) (frs C.A) g₀ g₆ := ExtX.trans (ExtX.off (h' := g₃.h) X₃ hf t) X56.up3
  have hl := (List.getElem?_eq_some_iff.mp e).1
  induction ok with
  | false => exact ⟨nofun, fun _ => (step_m hm hl).elim fun m' z => ⟨m', z.1, i + 1, fr₅, g₆, acc₃, rfl, z.2, kR _ _ _ q, st₆, p₃.trans X56.pre, of₆, c₆, X⟩⟩
  | true => exact ⟨fun _ => hbody q c₆ fun fr₇ g₇ acc₇ q c₇ X₇ =>
    have nX : ∀ a ∈ fp, a ∉ XC C U := fun a ha hm => (List.mem_cons.mp hm).elim (of₆ a ha).L fun hm => (List.mem_cons.mp hm).elim (fun z => hac (z ▸ ha)) fun hm => hlo (List.mem_singleton.mp hm ▸ ha)
    (step_m hm hl).elim fun m' z => ⟨m', z.1, i + 1, fr₇, g₇, acc₇, rfl, z.2, kR _ _ _ q, S.mono st₆ fun a ha o e => X₇.keep (of₆ a ha).α (nX a ha) (of₆ a ha).T (of₆ a ha).F e, p₃.trans (X56.pre.trans X₇.pre),
     fun a ha => (S.live st₆ a ha).elim fun o z => ⟨X₇.notin (of₆ a ha).α z.1, (of₆ a ha).L, (of₆ a ha).F, (of₆ a ha).T, (of₆ a ha).B⟩, c₇, ExtX.trans X X₇⟩, nofun⟩
 ·cases rr with
  | none => exact wpAny_pure z
  | some v =>
   refine wpAny_bind (wpAny_mono z (fun _ s₅ h₅ => wpAny_bind (wpAny_mono h₅ (fun _ s₆ h₆ => wpAny_bind (wpAny_mono h₆ (fun ok s₇ h₇ => ?_) fun _ _ z => z.elim)) fun _ _ z => z.elim)) fun _ _ z => z.elim)
   cases ok with
   | true => exact wpAny_bind (wpAny_mono (h₇.1 rfl) (fun _ s₈ h₈ => wpAny_pure ⟨rfl, h₈⟩) fun _ _ z => z.elim)
   | false => exact wpAny_pure ⟨rfl, h₇.2 rfl⟩
end
end Mine
namespace Mine
open PySem PySem.W PySem.Calls PyProof.Rows PyProof.V PySem.Spec PySem.SeqAt
inductive GenOk (sc : Scope) : Comprehension → IGen → Prop
 | mk {tg it : Expr} {ifs : List Expr} {pat : IPat} {src : ISrc} {cs : List IExpr} (hs : ∀ env v, foldedSetIterable it env v = pure v) (h : OkS sc it src) (hp : OkP sc tg pat) (ci : LR (Ok sc) ifs cs) : GenOk sc ⟨tg, it, ifs, 0⟩ (.mk pat src cs)
section
variable {n : Nat} {C : Cx} {sc : Scope} {U : Ou} {fr fr' : Fm} {g g₀ g' : Sg} {acc : List AV}
theorem compStart_gen {M : Model} {w : World} {A : Around} {env : Env} {s : Shared} {elt tg iter : Expr} {ifs : List Expr} {gens : List Comprehension} {scope : Scope} {pos : Pos} {depth : Nat} {it acc : Value} {R : Result → Shared → Prop} (hg : gens[depth]? = some ⟨tg, iter, ifs, 0⟩)
  (h0 : codeAny (model pw w) A (.compLoop (.ListComp elt gens scope pos) depth it acc env) R s)
  (hs : wpAny (model pw w) A (pyIter it) (fun it' s' => codeAny (model pw w) A (.compLoop (.ListComp elt gens scope pos) depth it' acc env) R s') FF s) :
  codeAny (model pw w) A (.compStart (.ListComp elt gens scope pos) depth it acc env) R s := by
 refine codeAny_of_tree ?_
 show wpAny _ _ ((compStart (.ListComp elt gens scope pos) depth it acc env).onRaise (fun x => do noteFrame x env; standAt theWindowsPlace)) _ _ s
 refine wpAny_notedAt ?_
 unfold compStart
 have hc : clausesOf (.ListComp elt gens scope pos) = gens := rfl
 rw [hc, hg]
 show wpAny _ _ (ask >>= _) _ _ s
 refine wpAny_bind (wpAny_askSetting (wpAny_ite ?_))
 have hs' := wpAny_mono hs (fun it' s' h' => h') (E' := notedBy (model pw w) A env fun x s' => R (.error x) s') fun _ _ z => z.elim
 split
 ·first
   | exact wpAny_bind (wpAny_pure (wpAny_pure (And.intro rfl h0)))
   | exact wpAny_pure (And.intro rfl h0)
 ·first
   | exact wpAny_bind (wpAny_rule (wpAny_bind (wpAny_standAt (wpAny_bind (wpAny_mono hs' (fun it' s' h' => wpAny_pure (And.intro rfl h')) fun _ _ x => x)))))
   | (refine wpAny_bind (wpAny_rule ?_); show wpAny _ _ (standAt iter.pos >>= _) _ _ s; exact wpAny_bind (wpAny_standAt (wpAny_bind (wpAny_mono hs' (fun it' s' h' => wpAny_pure (And.intro rfl h')) fun _ _ x => x))))
theorem push_sz {α : Type} {l : List α} {x : α} (h : l.length ≤ 100000) : (l ++ [x]).length ≤ 200000 := by rw [List.length_append]; exact Nat.le_trans (Nat.succ_le_succ h) (by decide)
theorem emit_snd {elt : Expr} {e : IExpr} {Q : Fm → Hp → List AV → Prop} {K : Shared → Prop} (h : Ok sc elt e) (G : Gd n C sc) (q : compB (go n) e [] fr g.h acc Q) (c : CI C U fr g acc) (k : KC C U g Q K) :
  C.wp (do let _ ← call (.builtin "list.append") [.ref U.ac, ← eval elt C.env]) (fun _ s => K s) g.s :=
 wpAny_bind (h.ev G q c.inv fun v x g₁ q hv I X => by
  have c₁ := c.ext I X
  refine CLst.casesOn c₁.lst fun {items m} hl r sz => HasD.casesOn c₁.out fun eo d => ?_
  have hlen : acc.length = items.size := r.length
  have hsz : items.size ≤ sizeLine := sz_le (hlen ▸ sz)
  refine wpAny_bind (call_meets F.slot_list_append ⟨_, hl, rfl⟩ F.entry_list_append (F.args_list_append_2 _ _) (PySem.list_append U.ac items m v hsz) ⟨hl, wpAny_pure ?_⟩)
  have hu := PySem.IsL.update (h := g₁.s.heap) (l := U.ac) (items := items) (n := m) hl (·.push v)
  have kp : ∀ b o, b ∉ [U.ac] → g₁.s.heap.get? b = some o → (g₁.s.heap.update U.ac (Obj.mapSeq (·.push v))).get? b = some o := fun b o hb e => (Heap.get?_update_other _ _ fun z => hb (by rw [z]; exact .head _)).trans e
  refine k fr ⟨g₁.α, g₁.h, { g₁.s with heap := g₁.s.heap.update U.ac (Obj.mapSeq (·.push v)) }⟩ (acc ++ [x]) q.2 ⟨InvH.off I (fp := [U.ac]) (fun a z => List.mem_singleton.mp z ▸ c₁.off) (fun a z o e => by rw [List.mem_singleton.mp z] at e; cases hl.symm.trans e; rfl) kp, ⟨hu, by simpa using r.append (.one hv), push_sz q.1⟩, c₁.off, c₁.pre, c₁.lo, c₁.loL, c₁.loT, c₁.loA, ⟨kp _ _ (fun z => c₁.loA (List.mem_singleton.mp z)) eo, d⟩⟩ ?_
  exact ExtX.trans X.up3 (ExtX.of (List.prefix_refl _) (fun _ h => .inl h) (fun b o _ n2 _ => kp b o fun z => n2 (List.mem_singleton.mp z ▸ .tail _ (.head _))) fun b o e => Classical.byCases (fun z : b = U.ac => ⟨_, (congrArg _ z).trans hu⟩) fun z => ⟨o, kp b o (fun q => z (List.mem_singleton.mp q)) e⟩))
theorem rest_get {gens : List Comprehension} {depth : Nat} {c : Comprehension} {rest : List Comprehension} (hd : gens.drop (depth + 1) = c :: rest) : gens[depth + 1]? = some c ∧ gens.drop (depth + 1 + 1) = rest ∧ gens[depth + 1 + 1]? = rest[0]? := by
 have e := List.drop_drop (i := 1) (j := depth + 1) (l := gens)
 rw [hd] at e
 have e : rest = gens.drop (depth + 1 + 1) := e.trans (by rw [Nat.add_comm])
 refine ⟨?_, e.symm, ?_⟩
 ·rw [← Nat.add_zero (depth + 1), ← List.getElem?_drop, hd]
  rfl
 ·rw [e, List.getElem?_drop]
theorem GenOk.sync {rest : List Comprehension} {gs : List IGen} (r : LR (GenOk sc) rest gs) : ∀ g ∈ rest, g.is_async = 0 := by
 induction r with
 | nil => intro _ h; cases h
 | cons h _ ih => exact fun g hg => (List.mem_cons.mp hg).elim (fun z => by subst z; cases h; rfl) (ih g)
theorem rest_snd {elt : Expr} {e : IExpr} {gens : List Comprehension} {scope : Scope} {pos : Pos} {rest : List Comprehension} {gs : List IGen} (r : LR (GenOk sc) rest gs) (he : Ok sc elt e) (G : Gd n C sc) {depth : Nat} {fr : Fm} {g : Sg} {acc : List AV} {Q : Fm → Hp → List AV → Prop} {K : Shared → Prop} (hd : gens.drop (depth + 1) = rest) (q : compB (go n) e gs fr g.h acc Q) (c : CI C U fr g acc) (k : KC C U g Q K) :
  C.wp (restSem elt gens scope pos depth (.ref U.ac) C.env rest) (fun _ s => K s) g.s := by
 induction r generalizing depth fr g acc Q K with
 | nil => exact emit_snd he G q c k
 | @cons cm ig rest gs h r ih =>
  induction h with
  | @mk tg it2 ifs pat src cs hs h hp ci =>
   have g1 := rest_get hd
   refine wpAny_bind (wpAny_mono (h (tg := tg) (K := fun iv s => codeAny C.M C.A (.compStart (.ListComp elt gens scope pos) (depth + 1) iv (.ref U.ac) C.env) (fun res s' => match res with | .ok _ => K s' | .error _ => False) s) G q c.inv fun iv items chk fp St g₂ q S hst of hf I X => ?_) (fun xv s₁ z => wpAny_bind (wpAny_standAt (wpAny_bind (wpAny_of_eq (hs _ xv) ?_)))) fun _ _ z => z)
   ·have c₂ := c.ext I X
    have hac : U.ac ∉ fp := fun hm => CLst.casesOn c.lst fun e _ _ => some_ne e (hf _ hm)
    have hlo : U.Lo ∉ fp := fun hm => HasD.casesOn c.out fun e _ => some_ne e (hf _ hm)
    have loop := compLoop_snd (B := fun fr h acc Q => compB (go n) e gs fr h acc Q) (scope := scope) (pos := pos) (elt := elt) G hp ci (turn_eq (rest := rest) g1.1 g1.2.2 (GenOk.sync r)) (fun q c k => ih g1.2.1 q c k) q S hst of hf hac hlo c₂ X.up3 k
    exact compStart_gen (M := C.M) g1.1 loop (S.self hst loop)
   ·exact wpAny_bind (wpAny_holding (wpAny_mono z (fun iv s₂ z => wpAny_bind (wpAny_runOwn (codeAny_mono z fun res s' hr => by
     cases res with
     | ok f => exact wpAny_pure hr
     | error e => exact hr.elim))) fun _ _ z => z))
end
end Mine
namespace Mine
open PySem PySem.W PySem.Calls PyProof.Rows PyProof.V PySem.Spec PySem.SeqAt
noncomputable def closOf (cells : List (Str × Addr)) : List (Str × NameKind) → List (Str × Addr) → List (Str × Addr)
 | [], acc => acc
 | (n, k) :: r, acc => if k == .free then closOf cells r ((n, (cells.lookup n).getD 0) :: acc) else closOf cells r acc
section
variable {p : Str × NameKind} {k : NameKind} {r : List (Str × NameKind)} {P : Prop}
theorem ofKind_yes (h : (p.2 == k) = true) : ofKind k (p :: r) = p.1 :: ofKind k r := by unfold ofKind; rw [List.filter_cons, if_pos h]; rfl
theorem ofKind_no (h : ¬(p.2 == k) = true) : ofKind k (p :: r) = ofKind k r := by unfold ofKind; rw [List.filter_cons, if_neg h]
end
theorem closureFor_eq {scope : Scope} {env : Env} (h : ∀ n ∈ ofKind .free scope.names, ∃ a, env.cells.lookup n = some a) : closureFor scope env = pure (closOf env.cells scope.names []) := by
 unfold closureFor
 have key : ∀ (names : List (Str × NameKind)) (acc : List (Str × Addr)), (∀ n ∈ ofKind .free names, ∃ a, env.cells.lookup n = some a) →
   (forIn names acc fun x r => (if (x.2 == NameKind.free) = true then do let a ← cellOf env x.1; pure (ForInStep.yield ((x.1, a) :: r)) else pure (ForInStep.yield r) : Sem (ForInStep (List (Str × Addr))))) = pure (closOf env.cells names acc) := by
  intro names
  induction names with
  | nil => exact fun acc _ => rfl
  | cons p names ih =>
   intro acc h
   rw [List.forIn_cons]
   unfold closOf
   by_cases hk : (p.2 == NameKind.free) = true
   ·rw [ofKind_yes hk] at h
    rw [if_pos hk, if_pos hk]
    refine (h _ (.head _)).elim fun a ha => ?_
    have hc : cellOf env p.1 = pure a := by unfold cellOf; rw [ha]
    rw [hc, ha]
    exact ih _ fun m hm => h m (.tail _ hm)
   ·rw [ofKind_no hk] at h
    rw [if_neg hk, if_neg hk]
    exact ih _ h
 exact (congrArg (· >>= pure) (key scope.names [] h)).trans rfl
theorem lookup_ne {β : Type} {m n : Str} {x : β} {r : List (Str × β)} (h : m ≠ n) : ((n, x) :: r).lookup m = r.lookup m := by rw [List.lookup_cons, beq_eq_false_iff_ne.mpr h]
theorem lookup_eq {β : Type} {n : Str} {x : β} {r : List (Str × β)} : ((n, x) :: r).lookup n = some x := by rw [List.lookup_cons, beq_self_eq_true]
theorem closOf_other {cells : List (Str × Addr)} {m : Str} {names : List (Str × NameKind)} : ∀ {acc : List (Str × Addr)}, m ∉ ofKind .free names → (closOf cells names acc).lookup m = acc.lookup m := by
 induction names with
 | nil => exact fun _ => rfl
 | cons p names ih =>
  intro acc h
  unfold closOf
  by_cases hk : (p.2 == NameKind.free) = true
  ·rw [ofKind_yes hk] at h
   rw [if_pos hk, ih fun z => h (.tail _ z), lookup_ne (fun e : m = p.1 => h (e ▸ .head _))]
  ·rw [ofKind_no hk] at h
   rw [if_neg hk, ih h]
theorem closOf_lookup {cells : List (Str × Addr)} {m : Str} {names : List (Str × NameKind)} : ∀ {acc : List (Str × Addr)}, m ∈ ofKind .free names → (closOf cells names acc).lookup m = some ((cells.lookup m).getD 0) := by
 induction names with
 | nil => exact fun h => nomatch h
 | cons p names ih =>
  intro acc h
  unfold closOf
  by_cases hk : (p.2 == NameKind.free) = true
  ·rw [ofKind_yes hk] at h
   rw [if_pos hk]
   by_cases z : m ∈ ofKind .free names
   ·exact ih z
   ·rw [closOf_other z]
    cases (List.mem_cons.mp h).resolve_right z
    exact lookup_eq
  ·rw [ofKind_no hk] at h
   rw [if_neg hk, ih h]
theorem cellsFrom_other {m : Str} {names : List (Str × NameKind)} : ∀ {b : Nat} {acc : List (Str × Addr)}, m ∉ ofKind .cell names → (cellsFrom b names acc).lookup m = acc.lookup m := by
 induction names with
 | nil => exact fun _ => rfl
 | cons p names ih =>
  intro b acc h
  unfold cellsFrom
  by_cases hk : (p.2 == NameKind.cell) = true
  ·rw [ofKind_yes hk] at h
   rw [if_pos hk, ih fun z => h (.tail _ z), lookup_ne (fun e : m = p.1 => h (e ▸ .head _))]
  ·rw [ofKind_no hk] at h
   rw [if_neg hk, ih h]
theorem cellsFrom_own {m : Str} {names : List (Str × NameKind)} : ∀ {b : Nat} {acc : List (Str × Addr)} {i : Nat}, (ofKind .cell names).Nodup → (ofKind .cell names)[i]? = some m → (cellsFrom b names acc).lookup m = some (b + i) := by
 induction names with
 | nil => exact fun _ h => nomatch h
 | cons p names ih =>
  intro b acc i hn h
  unfold cellsFrom
  by_cases hk : (p.2 == NameKind.cell) = true
  ·rw [ofKind_yes hk] at h hn
   have hn := List.nodup_cons.mp hn
   rw [if_pos hk]
   cases i with
   | zero => cases h; rw [cellsFrom_other hn.1]; exact lookup_eq
   | succ i => rw [ih hn.2 h, Nat.succ_add]; rfl
  ·rw [ofKind_no hk] at h hn
   rw [if_neg hk]
   exact ih hn h
theorem mem_ofKind {k : NameKind} {m : Str} {names : List (Str × NameKind)} (e : names.lookup m = some k) : m ∈ ofKind k names := by
 induction names with
 | nil => exact noS e
 | cons p names ih =>
  by_cases hm : m = p.1
  ·subst hm
   have e : p.2 = k := Option.some.inj (lookup_eq.symm.trans e)
   rw [ofKind_yes (beq_iff_eq.mpr e)]
   exact .head _
  ·have h := ih ((lookup_ne hm).symm.trans e)
   by_cases hk : (p.2 == k) = true
   ·rw [ofKind_yes hk]; exact .tail _ h
   ·rw [ofKind_no hk]; exact h
theorem nm_nodup {l : List Nat} (h : l.Nodup) : (l.map nm).Nodup := List.nodup_iff_pairwise_ne.mpr (List.pairwise_map.mpr ((List.nodup_iff_pairwise_ne.mp h).imp fun hne e => hne (nmI e)))
theorem nm_mem {l : List Nat} {x : Nat} (h : nm x ∈ l.map nm) : x ∈ l := (List.mem_map.mp h).elim fun y z => nmI z.2 ▸ z.1
theorem cellIdx_own {x : Nat} {own : List Nat} : ∀ {b k : Nat}, cellIdx b own x = some k → ∃ i, own[i]? = some x ∧ k = b + i := by
 induction own with
 | nil => exact fun e => nomatch e
 | cons y own ih =>
  intro b k e
  unfold cellIdx at e
  by_cases z : x = y
  ·rw [if_pos z] at e; cases e; exact ⟨0, congrArg some z.symm, rfl⟩
  ·rw [if_neg z] at e
   exact (ih e).elim fun i q => ⟨i + 1, q.1, q.2.trans (Nat.succ_add_eq_add_succ b i)⟩
theorem cellIdx_none {x : Nat} {own : List Nat} : ∀ {b : Nat}, cellIdx b own x = none → x ∉ own := by
 induction own with
 | nil => exact fun _ => List.not_mem_nil
 | cons y own ih =>
  intro b e
  unfold cellIdx at e
  by_cases z : x = y
  ·rw [if_pos z] at e; cases e
  ·rw [if_neg z] at e
   exact fun h => (List.mem_cons.mp h).elim z (ih e)
noncomputable def relab (scope sc : Scope) : Scope :=
 { scope with names := scope.names.map fun (n, k) => if (k == .free && sc.kind == .function && sc.names.lookup n == some .cell) then (n, .cell) else (n, k) }
theorem relabel_eq {scope sc : Scope} {env : Env} (e : env.scope = sc) : relabel scope env = relab scope sc := by subst e; rfl
theorem relab_lookup {scope sc : Scope} {m : Str} (h : CF (relab scope sc) m) : m ∈ ofKind .cell scope.names ∨ m ∈ ofKind .free scope.names := by
 unfold CF relab at h
 generalize scope.names = names at h
 induction names with
 | nil => exact h.elim (fun z => nomatch z) fun z => nomatch z
 | cons p names ih =>
  have up : (m ∈ ofKind .cell names ∨ m ∈ ofKind .free names) → m ∈ ofKind .cell (p :: names) ∨ m ∈ ofKind .free (p :: names) := fun z => z.imp
   (fun z => by unfold ofKind at z ⊢; exact (List.mem_map.mp z).elim fun q z => List.mem_map.mpr ⟨q, List.mem_filter.mpr ((List.mem_filter.mp z.1).imp (List.mem_cons_of_mem _) id), z.2⟩)
   (fun z => by unfold ofKind at z ⊢; exact (List.mem_map.mp z).elim fun q z => List.mem_map.mpr ⟨q, List.mem_filter.mpr ((List.mem_filter.mp z.1).imp (List.mem_cons_of_mem _) id), z.2⟩)
  obtain ⟨n, k⟩ := p
  simp only [List.map_cons] at h
  by_cases hm : m = n
  ·subst hm
   split at h
   ·next hc =>
    rw [Bool.and_eq_true, Bool.and_eq_true] at hc
    exact .inr (by rw [ofKind_yes (p := (m, k)) hc.1.1]; exact .head _)
   ·rw [lookup_eq] at h
    exact h.imp (fun z => by rw [ofKind_yes (p := (m, k)) (beq_iff_eq.mpr (Option.some.inj z))]; exact .head _) fun z => by rw [ofKind_yes (p := (m, k)) (beq_iff_eq.mpr (Option.some.inj z))]; exact .head _
  ·refine up (ih ?_)
   split at h
   ·rw [lookup_ne hm] at h; exact h
   ·rw [lookup_ne hm] at h; exact h
section
variable {C : Cx} {fr : Fm}
theorem newCell (v : Option AV) : NewOk (.cell v) := alone rfl trivial
theorem InvH.pushCells (names : List (Str × NameKind)) : ∀ {α : List Addr} {h : Hp} {s : Heap}, InvH C fr α h s →
  InvH C fr (α ++ List.range' s.objs.size (ofKind .cell names).length) (h ++ List.replicate (ofKind .cell names).length (.cell none)) (PySem.pushCells s names) := by
 induction names with
 | nil => intro α h s I; rw [show ofKind .cell [] = [] from rfl]; simp only [List.length_nil, List.range'_zero, List.replicate_zero, List.append_nil]; exact I
 | cons p names ih =>
  intro α h s I
  unfold PySem.pushCells
  by_cases hk : (p.2 == NameKind.cell) = true
  ·rw [ofKind_yes hk, if_pos hk, List.length_cons, List.replicate_succ, List.range'_succ]
   have := ih (InvH.adopt (o := .cell none) (I.keeps fun b o e => Heap.get?_push_of_some { cls := .type "cell", data := .cell none } e) (I.free (fresh_size s)) (Heap.get?_push_size _ rfl) rfl ⟨rfl, trivial⟩ (I.sim.wf.new (newCell none)))
   rw [Heap.size_push, List.append_assoc, List.append_assoc] at this
   exact this
  ·rw [ofKind_no hk, if_neg hk]
   exact ih I
theorem InvH.adoptCells {s : Heap} {v : Nat → Option AV} {own : List Nat} : ∀ {α : List Addr} {h : Hp} {b : Nat}, InvH C fr α h s → (∀ i x, own[i]? = some x → ObAt α s C.w (.cell (v x)) (b + i) ∧ Free C α (b + i)) → InvH C fr (α ++ List.range' b own.length) (h ++ own.map fun x => .cell (v x)) s := by
 induction own with
 | nil => intro α h b I _; rw [List.length_nil, List.range'_zero, List.map_nil, List.append_nil, List.append_nil]; exact I
 | cons x own ih =>
  intro α h b I hp
  have p : α <+: α ++ [b] := List.prefix_append _ _
  have up : ∀ {o a}, ObAt α s C.w (.cell o) a → ObAt (α ++ [b]) s C.w (.cell o) a := fun z => ObAt.casesOn z fun c hc r => ⟨c, hc, OCell.casesOn r fun d r => .mk d (OptR.up p r)⟩
  have h0 := hp 0 x rfl
  refine ObAt.casesOn (up h0.1) fun c hc r => ?_
  have := ih (b := b + 1) (InvH.adopt I h0.2 hc (r.nocode nofun) r (I.sim.wf.new (newCell _))) fun i y e =>
   have z := hp (i + 1) y e
   have e : b + 1 + i = b + (i + 1) := Nat.succ_add_eq_add_succ b i
   e ▸ ⟨up z.1, ⟨fun q => (List.mem_append.mp q).elim z.2.α fun q => Nat.succ_ne_zero i (Nat.add_left_cancel (List.mem_singleton.mp q)), z.2.L, z.2.F, z.2.T, z.2.B⟩⟩
  rw [List.append_assoc, List.append_assoc] at this
  rw [List.length_cons, List.range'_succ]
  exact this
end
end Mine
namespace Mine
open PySem PySem.W PySem.Calls PyProof.Rows PyProof.V PySem.Spec PySem.SeqAt
structure CompOk (sc scope : Scope) (own free : List Nat) : Prop where
 kind : scope.kind = .function
 all : (scope.names.all fun p => scope.names.lookup p.1 == some p.2) = true
 ho : ofKind .cell scope.names = own.map nm
 hf : ofKind .free scope.names = free.map nm
 nd : own.Nodup
 fr : ∀ n ∈ ofKind .free scope.names, CF sc n
 lam : lamSc (relab scope sc) = true → lamSc sc = true
section
variable {n : Nat} {C : Cx} {sc scope : Scope} {own free : List Nat} {fr fr' : Fm} {g g₂ : Sg} {acc : List AV} {s : Shared}
theorem env_comp {M : Model} {A : Around} {E : Value → Shared → Prop} {env : Env} {globals : Addr} {cl : List (Str × Addr)} {qual : Str} {Q : Env → Shared → Prop}
  (q : Q (newEnv scope s.heap.objs.size globals (cellsFrom (s.heap.objs.size + 1) scope.names cl) qual none .none (some env) builtinsNs) { s with heap := PySem.pushCells (s.heap.push { cls := .type "dict", data := .dict #[] }) scope.names }) :
  wpAny M A (newFunctionEnv scope globals cl [] qual none .none (some env)) Q E s := by
 simp only [newFunctionEnv, Option.isSome_some, if_true]
 refine wpAny_bind (wpAny_alloc ?_)
 refine wpAny_bind (wpAny_layCells _ (fun name kind cells => by cases hkc : kind == NameKind.cell <;> simp [hkc]) _ _ _ _ ?_)
 rw [show ({ s with heap := s.heap.push { cls := .type "dict", data := .dict #[] } } : Shared).heap.objs.size = s.heap.objs.size + 1 from Heap.size_push ..]
 refine wpAny_bind ?_
 rw [List.forIn_nil]
 exact wpAny_pure (wpAny_pure q)
noncomputable def cenvOf (scope : Scope) (env : Env) (Cc : Addr) : Env := { newEnv scope Cc env.globals (cellsFrom (Cc + 1) scope.names (closOf env.cells scope.names [])) env.qual none .none (some env) builtinsNs with scope := relabel scope env }
theorem cenv_free (H : CompOk sc scope own free) (E : EnvH C.B C.env sc) {Cc : Addr} {m : Str} (hm : m ∈ ofKind .free scope.names) (hn : m ∉ ofKind .cell scope.names) : (cenvOf scope C.env Cc).cells.lookup m = C.env.cells.lookup m :=
 (cellsFrom_other hn).trans ((closOf_lookup hm).trans ((E.cells m (H.fr m hm)).elim fun a ha => by rw [ha]; rfl))
theorem cenv_own (H : CompOk sc scope own free) {Cc : Addr} {i x : Nat} (hx : own[i]? = some x) : (cenvOf scope C.env Cc).cells.lookup (nm x) = some (Cc + 1 + i) :=
 cellsFrom_own (by rw [H.ho]; exact nm_nodup H.nd) (by rw [H.ho, List.getElem?_map, hx]; rfl)
theorem comp_env (H : CompOk sc scope own free) (E : EnvH C.B C.env sc) {Cc : Addr} : EnvH C.B (cenvOf scope C.env Cc) (relab scope sc) where
 scope := relabel_eq E.scope
 kind := H.kind
 glob := E.glob
 blt := E.blt
 cells m hm := by
  by_cases hc : m ∈ ofKind .cell scope.names
  ·rw [H.ho] at hc
   exact (List.mem_map.mp hc).elim fun x z => (List.mem_iff_getElem?.mp z.1).elim fun i e => ⟨_, z.2 ▸ cenv_own H e⟩
  ·have h2 := (relab_lookup hm).resolve_left hc
   exact (E.cells m (H.fr m h2)).elim fun a ha => ⟨a, (cenv_free H E h2 hc).trans ha⟩
 lam hl := E.lam (H.lam hl)
theorem comp_inner (H : CompOk sc scope own free) (E : EnvH C.B C.env sc) (I : Inv C fr g₂) {H4 : Heap} {Cc : Addr} (k : ∀ b o, g₂.s.heap.get? b = some o → H4.get? b = some o) (hsz : H4.objs.size = Cc + 1) (hns : H4.Ns Cc fun _ => none) (hf : g₂.s.heap.get? Cc = none) :
  InvH (C.at (cenvOf scope C.env Cc)) (compF own free fr g₂.h) (g₂.α ++ List.range' (Cc + 1) own.length) (g₂.h ++ own.map fun _ => .cell none) (PySem.pushCells H4 scope.names) := by
 have F := InvH.free I hf
 have I4 := InvH.pushCells scope.names (InvH.keeps I k)
 rw [hsz, H.ho, List.length_map, ← List.map_const'] at I4
 exact {
  sim := ⟨I4.sim.len, I4.sim.nd, I4.sim.obj, I4.sim.base, I4.sim.own, I4.sim.tab, I4.sim.tabN, I4.sim.wf⟩
  ns := .mk (hns.keeps (pushCells_keeps _ _)) fun x v e => noS e
  cel := fun x kk e => by
   replace e : (cellIdx g₂.h.length own x).or (if free.contains x then fr.cel x else none) = some kk := e
   cases hci : cellIdx g₂.h.length own x with
   | none =>
    rw [hci, Option.none_or] at e
    split at e
    ·next hfx =>
     exact one_mono (one_pre (List.prefix_append _ _) (I.cel x kk e)) fun a ha => (cenv_free H E (by rw [H.hf]; exact List.mem_map.mpr ⟨x, List.contains_iff_mem.mp hfx, rfl⟩) (by rw [H.ho]; exact fun z => cellIdx_none hci (nm_mem z))).trans ha
    ·exact noS e
   | some k' =>
    rw [hci, Option.some_or] at e
    cases e
    refine (cellIdx_own hci).elim fun i z => ⟨Cc + 1 + i, ?_, cenv_own H z.1⟩
    rw [z.2, ← I.sim.len, List.getElem?_append_right (Nat.le_add_right _ _), Nat.add_sub_cancel_left, List.getElem?_range' (List.getElem?_eq_some_iff.mp z.1).1, Nat.one_mul]
  locN := fun hm => (List.mem_append.mp hm).elim F.α fun z => Nat.lt_irrefl _ (List.mem_range'_1.mp z).1
  locB := F.B
  locT := F.T
  FN := I4.FN
  FF := Frs.casesOn I4.FF fun e f => .mk e f
  hd := I.hd }
end
end Mine
namespace Mine
open PySem PySem.W PySem.Calls PyProof.Rows PyProof.V PySem.Spec PySem.SeqAt
theorem ExtX.adopt {X F : List Addr} {g g' : Sg} {a : Addr} {h' : Hp} (x : ExtX X F g g') (ha : g.s.heap.get? a = none) : ExtX X F g ⟨g'.α ++ [a], h', g'.s⟩ :=
 ⟨x.pre.trans (List.prefix_append _ _), fun b hb => (List.mem_append.mp hb).elim (x.new b) fun z => .inr (List.mem_singleton.mp z ▸ ha), x.at_, x.gens, x.os⟩
section
variable {n : Nat} {C : Cx} {sc scope : Scope} {own free : List Nat} {fr fr' : Fm} {g g₂ : Sg} {acc : List AV} {Q : AV → Hp → Prop} {K : Value → Shared → Prop}
noncomputable def KEnd (C : Cx) (fr : Fm) (g : Sg) (Q : AV → Hp → Prop) (R : Addr → Value → Shared → Prop) : Prop := ∀ x v g' Cc, Q x g'.h → VR g'.α x v → Inv C fr g' → Ext C g g' → Free C g'.α Cc → (∃ m, g'.s.heap.Ns Cc m) → g.s.heap.get? Cc = none → R Cc v g'.s
theorem comp_end {env : Env} {ac : Addr} {o : Obj} {g6 : Sg} {acc6 : List AV} {fr6 : Fm} {R : Addr → Value → Shared → Prop} (I : Inv C fr g₂) (X₂ : Ext C g g₂) (ho : g₂.s.heap.get? C.L = some o) (ha : g₂.s.heap.get? ac = none) (hC : g₂.s.heap.get? env.locals = none) (n : env.locals ≠ ac)
  (q : Q (.ref g6.h.length) (g6.h ++ [.list acc6])) (c : CI (C.at env) ⟨ac, C.L, o.data, g₂.α⟩ fr6 g6 acc6) (X : ExtX (XC (C.at env) ⟨ac, C.L, o.data, g₂.α⟩) (frs C.A) g g6) (k : KEnd C fr g Q R) : R env.locals (.ref ac) g6.s := by
 have FC := InvH.free I hC
 have Fa := InvH.free I ha
 have Io : Inv C fr g6 := {
  sim := ⟨c.inv.sim.len, c.inv.sim.nd, c.inv.sim.obj, c.inv.sim.base, c.inv.sim.own, c.inv.sim.tab, c.inv.sim.tabN, c.inv.sim.wf⟩
  ns := I.ns.keep c.pre fun o' e _ => HasD.casesOn c.out fun {o6} e6 d => ⟨o6, e6, Option.some.inj (ho.symm.trans e) ▸ d⟩
  cel := fun x k e => one_pre c.pre (I.cel x k e)
  locN := c.lo
  locB := I.locB
  locT := I.locT
  FN := c.inv.FN
  FF := Frs.casesOn c.inv.FF fun e f => .mk e f
  hd := I.hd }
 refine CLst.casesOn c.lst fun {vs m} e r sz => ?_
 have Ia : Inv C fr ⟨g6.α ++ [ac], g6.h ++ [.list acc6], g6.s⟩ := InvH.adopt Io ⟨c.off.α, Fa.L, Fa.F, Fa.T, Fa.B⟩ e rfl (OList.mk (VR.monoL (List.prefix_append _ _) r)) (Io.sim.wf.new (newList sz))
 have hsC := X₂.fresh hC
 have hsa := X₂.fresh ha
 refine k (.ref g6.h.length) (.ref ac) ⟨g6.α ++ [ac], g6.h ++ [.list acc6], g6.s⟩ env.locals q (.mk (snoc_at Io.sim.len)) Ia (ExtX.adopt (ExtX.wide X fun a z => (List.mem_cons.mp z).elim (fun z => .inr (z ▸ hsC)) fun z => (List.mem_cons.mp z).elim (fun z => .inr (z ▸ hsa)) .inl) hsa) ⟨fun z => (List.mem_append.mp z).elim c.inv.locN fun z => n (List.mem_singleton.mp z), FC.L, FC.F, FC.T, FC.B⟩ ?_ hsC
 exact NsR.casesOn c.inv.ns fun {m} hn _ => ⟨m, hn⟩
theorem comp_core {elt tg it : Expr} {ifs : List Expr} {rest : List Comprehension} {pos p : Pos} {e : IExpr} {pat : IPat} {src : ISrc} {cs : List IExpr} {gs : List IGen} {use : Option (Value → Sem Unit)} {R : Addr → Value → Shared → Prop}
  (G : Gd n C sc) (H : CompOk sc scope own free) (hs : ∀ env v, foldedSetIterable it env v = pure v) (h : OkS sc it src) (hp : OkP (relab scope sc) tg pat) (ci : LR (Ok (relab scope sc)) ifs cs) (cg : LR (GenOk (relab scope sc)) rest gs) (he : Ok (relab scope sc) elt e)
  (q : evStep (go n) (.comp e (.mk pat src cs) gs own free) fr g.h Q) (I : Inv C fr g) (k : KEnd C fr g Q R) (hR : ∀ Cc v f s, R Cc v s → compPost C.M C.A FF use K v Cc (.ok f) s) :
  C.wp (comprehension (.ListComp elt (⟨tg, it, ifs, 0⟩ :: rest) scope pos) scope C.env p (PySem.newList []) false (eval it C.env) use) K g.s := by
 have hnames : ∀ x ∈ scope.names, x.2 = .local → scope.names.lookup x.1 = some .local := fun x hx hl => (beq_iff_eq.mp (List.all_eq_true.mp H.all x hx)).trans (congrArg some hl)
 refine wpAny_comprehension_free (g := ⟨tg, it, ifs, 0⟩) (gs := rest) rfl (hs C.env) (closureFor_eq (scope := scope) fun m hm => G.E.cells m (H.fr m hm)) H.kind hnames (h (tg := tg) G q I fun iv items chk fp St g₂ q S hst of hf I₂ X₂ => wpAny_newObj_type (env_comp ?_))
 generalize hac : g₂.s.heap.objs.size = ac
 have hfa : g₂.s.heap.get? ac = none := hac ▸ fresh_size _
 generalize hH3 : g₂.s.heap.push { cls := .type "list", data := .seq ([] : List Value).toArray } = H3
 have k23 : ∀ b o, g₂.s.heap.get? b = some o → H3.get? b = some o := fun b o e => hH3 ▸ Heap.get?_push_of_some _ e
 have hacl : H3.get? ac = some ⟨.type "list", none, .seq #[] 0, #[]⟩ := by rw [← hH3, ← hac]; exact Heap.get?_push_size _ rfl
 generalize hC : H3.objs.size = Cc
 have hfC3 : H3.get? Cc = none := hC ▸ fresh_size _
 have hCa : Cc ≠ ac := fun z => some_ne hacl (z ▸ hfC3)
 have hfC : g₂.s.heap.get? Cc = none := by
  cases z : g₂.s.heap.get? Cc with
  | none => rfl
  | some o => exact some_ne (k23 _ _ z) hfC3
 generalize hH4 : H3.push { cls := .type "dict", data := .dict #[] } = H4
 have k34 : ∀ b o, H3.get? b = some o → H4.get? b = some o := fun b o e => hH4 ▸ Heap.get?_push_of_some _ e
 have hsz4 : H4.objs.size = Cc + 1 := by rw [← hH4, Heap.size_push, hC]
 have hns4 : H4.Ns Cc (fun _ => none) := by rw [← hH4, ← hC]; exact Heap.Ns.new _ _
 have I5 := comp_inner H G.E I₂ (fun b o e => k34 b o (k23 b o e)) hsz4 hns4 hfC
 have k45 := pushCells_keeps scope.names H4
 generalize PySem.pushCells H4 scope.names = H5 at I5 k45
 have k25 : ∀ b o, g₂.s.heap.get? b = some o → H5.get? b = some o := fun b o e => k45 b o (k34 b o (k23 b o e))
 have old : ∀ b o, H3.get? b = some o → b ∉ List.range' (Cc + 1) own.length := fun b o e hm => Nat.lt_irrefl _ (Nat.lt_of_lt_of_le (hC ▸ Heap.lt_size e) (Nat.le_of_succ_le (List.mem_range'_1.mp hm).1))
 have notin : ∀ b o, g₂.s.heap.get? b = some o → b ∉ g₂.α → b ∉ g₂.α ++ List.range' (Cc + 1) own.length := fun b o e n hm => (List.mem_append.mp hm).elim n (old b o (k23 b o e))
 obtain ⟨o, ho, _⟩ := I₂.ns.at
 have Fa := InvH.free I₂ hfa
 have c5 : CI (C.at (cenvOf scope C.env Cc)) ⟨ac, C.L, o.data, g₂.α⟩ (compF own free fr g₂.h) ⟨g₂.α ++ List.range' (Cc + 1) own.length, g₂.h ++ own.map fun _ => AObj.cell none, { g₂.s with heap := H5 }⟩ [] :=
  ⟨I5, ⟨k45 _ _ (k34 _ _ hacl), .nil, Nat.zero_le _⟩, ⟨fun hm => (List.mem_append.mp hm).elim Fa.α (old _ _ hacl), hCa.symm, Fa.F, Fa.T, Fa.B⟩, List.prefix_append _ _, notin _ _ ho I₂.locN, fun (z : C.L = Cc) => some_ne (z ▸ ho) hfC, I₂.locT, fun z => Fa.L z.symm, ⟨k25 _ _ ho, rfl⟩⟩
 have lv := S.live hst
 have of5 : Off (C.at (cenvOf scope C.env Cc)) (g₂.α ++ List.range' (Cc + 1) own.length) fp := fun a ha => (lv a ha).elim fun o z => ⟨notin _ _ z.1 (of a ha).α, fun y => some_ne (y ▸ z.1) hfC, (of a ha).F, (of a ha).T, (of a ha).B⟩
 have S5 : Src (C.at (cenvOf scope C.env Cc)) (g₂.α ++ List.range' (Cc + 1) own.length) tg iv items chk fp St := ⟨S.mono, S.live, S.self, fun pre => S.next ((List.prefix_append _ _).trans pre)⟩
 have hst5 : St 0 H5 := S.mono hst fun a _ o e => k25 a o e
 have X5 : ExtX (XC (C.at (cenvOf scope C.env Cc)) ⟨ac, C.L, o.data, g₂.α⟩) (frs C.A) g ⟨g₂.α ++ List.range' (Cc + 1) own.length, g₂.h ++ own.map fun _ => AObj.cell none, { g₂.s with heap := H5 }⟩ :=
  ⟨X₂.pre.trans (List.prefix_append _ _), fun a ha => (List.mem_append.mp ha).elim (X₂.new a) fun z => .inr (by
   cases e : g.s.heap.get? a with
   | none => rfl
   | some o => exact (X₂.live e).elim fun o' e' => absurd z (old _ _ (k23 _ _ e'))), fun b o' e => Kept.casesOn (X₂.at_ b o' e) fun o₂ e₂ kk => ⟨o₂, k25 _ _ e₂, fun n1 n2 n3 => kk n1 (fun z => n2 (List.mem_singleton.mp z ▸ .tail _ (.tail _ (.head _)))) n3⟩, X₂.gens, X₂.os⟩
 have G' : Gd n (C.at (cenvOf scope C.env Cc)) (relab scope sc) := ⟨G.W, comp_env H G.E, G.A, G.S⟩
 have loop := compLoop_snd (g := ⟨g₂.α ++ List.range' (Cc + 1) own.length, g₂.h ++ own.map fun _ => AObj.cell none, { g₂.s with heap := H5 }⟩) (Q := fun _ h acc => Q (AV.ref h.length) (h ++ [AObj.list acc])) (C := C.at (cenvOf scope C.env Cc)) (K := fun s => R Cc (.ref ac) s) (B := fun fr h acc Q => compB (go n) e gs fr h acc Q) (scope := scope) (pos := pos) (elt := elt) G' hp ci (turn_eq (gens := ⟨tg, it, ifs, 0⟩ :: rest) (depth := 0) (rest := rest) rfl rfl (GenOk.sync cg))
  (fun q c k => rest_snd cg he G' rfl q c k) q S5 hst5 of5 hf (fun hm => (lv _ hm).elim fun o z => some_ne z.1 hfa) (fun hm => (of _ hm).L rfl) c5 X5
  fun fr6 g6 acc6 q c X => comp_end I₂ X₂ ho hfa hfC hCa q c X k
 have loop := codeAny_mono loop fun res s' hr => (show compPost C.M C.A FF use K (.ref ac) Cc res s' from by
  cases res with
  | error x => exact hr.elim
  | ok f => exact hR Cc _ f s' hr)
 exact compStart_gen (M := C.M) (tg := tg) (iter := it) (ifs := ifs) (gens := ⟨tg, it, ifs, 0⟩ :: rest) (depth := 0) rfl loop (S.self (s := { g₂.s with heap := H5 }) hst5 loop)
end
end Mine
namespace Mine
open PySem PySem.W PySem.Calls PyProof.Rows PyProof.V PySem.Spec PySem.SeqAt
section
variable {n : Nat} {C : Cx} {sc scope : Scope} {own free : List Nat} {fr fr' : Fm} {g g₂ : Sg} {acc : List AV} {Q : AV → Hp → Prop} {K : Value → Shared → Prop} {pos : Pos}
theorem letGo {Cc : Addr} {g' : Sg} {P : Shared → Prop} (I : Inv C fr g') (F : Free C g'.α Cc) (h : ∃ m, g'.s.heap.Ns Cc m) (k : ∀ s', Turn [Cc] g'.s s' → Inv C fr ⟨g'.α, g'.h, s'⟩ → P s') : ∃ m, g'.s.heap.Ns Cc m ∧ ∀ hp, Heap.SameBut Cc g'.s.heap hp → P { g'.s with heap := hp } :=
 h.elim fun m hm => ⟨m, hm, fun hp hs =>
  have t : Turn [Cc] g'.s { g'.s with heap := hp } := ⟨fun b o n e => (hs.2 b fun z => n (z ▸ .head _)).trans e, rfl, rfl⟩
  k _ t (I.off (fun a z => List.mem_singleton.mp z ▸ F) (fun a z => List.mem_singleton.mp z ▸ hm.elim fun o y => y.elim fun es y => y.elim fun ep y => ⟨o, y.1, noCode_of y.2.1 rfl⟩) t)⟩
theorem KE.fin (k : KE C fr g Q K) : KEnd C fr g Q fun Cc v s => ∃ m, s.heap.Ns Cc m ∧ ∀ hp, Heap.SameBut Cc s.heap hp → K v { s with heap := hp } := fun x v g' Cc q hv I X F h f =>
 letGo (P := fun s => K v s) I F h fun s' t I => k v x ⟨g'.α, g'.h, s'⟩ q hv I (ExtX.off (h' := g'.h) X (fun a z => List.mem_singleton.mp z ▸ f) t)
variable {elt tg it : Expr} {ifs : List Expr} {rest : List Comprehension} {p : Pos} {e : IExpr} {pat : IPat} {src : ISrc} {cs : List IExpr} {gs : List IGen}
theorem sE_comp (H : CompOk sc scope own free) (hs : ∀ env v, foldedSetIterable it env v = pure v) (h : OkS sc it src) (hp : OkP (relab scope sc) tg pat) (ci : LR (Ok (relab scope sc)) ifs cs) (cg : LR (GenOk (relab scope sc)) rest gs) (he : Ok (relab scope sc) elt e) :
  Ok sc (.ListComp elt (⟨tg, it, ifs, 0⟩ :: rest) scope pos) (.comp e (.mk pat src cs) gs own free) := okX (fun _ _ => rfl) (fun _ => rfl) fun {n C fr g Q K} G q I k => by
 rw [eval_ListComp]
 exact comp_core (use := none) G H hs h hp ci cg he q I k.fin fun Cc v f s z => z
theorem sS_asgC {id : Str} {p' : Pos} {iv : IVar} (hv : OkV sc (.Name id p') iv) (H : CompOk sc scope own free) (hs : ∀ env v, foldedSetIterable it env v = pure v) (h : OkS sc it src) (hp : OkP (relab scope sc) tg pat) (ci : LR (Ok (relab scope sc)) ifs cs) (cg : LR (GenOk (relab scope sc)) rest gs) (he : Ok (relab scope sc) elt e) :
  OkSt sc (.Assign [.Name id p'] (.ListComp elt (⟨tg, it, ifs, 0⟩ :: rest) scope p) pos) (.asg [.var iv] (.comp e (.mk pat src cs) gs own free)) := by
 have hb : ∀ env, ∃ b, swapsWith (.ListComp elt (⟨tg, it, ifs, 0⟩ :: rest) scope p) (some (.Name id p')) pos.line env = pure b := fun env => ⟨_, rfl⟩
 have hE : Ok sc (.ListComp elt (⟨tg, it, ifs, 0⟩ :: rest) scope p) _ := sE_comp H hs h hp ci cg he
 intro n C fr g Q K G q I k
 refine (hb C.env).elim fun b hb => ?_
 induction b with
 | false => exact wpAny_Assign_stores (hE.ev G q I fun v x g₁ q hx I X => tgts_snd (.one (sT_var hv)) G q hx I fun fr₂ g₂ q I Y => k .next .next fr₂ g₂ q rfl I (X.trans Y)) hb rfl
 | true =>
  show wpAny C.M C.A (exec _ C.env) K FF g.s
  rw [exec_Assign_Name_used _ _ _ _ hb]
  refine wpAny_bind (wpAny_standAt (wpAny_bind ?_))
  induction n with
  | zero => exact q.elim
  | succ n =>
   refine MonE.casesOn q fun R q kR => ?_
   show wpAny C.M C.A (do let _ ← comprehension (.ListComp elt (⟨tg, it, ifs, 0⟩ :: rest) scope p) scope C.env _ (PySem.newList []) false (eval it C.env) (some (assign (.Name id p') C.env))) _ _ g.s
   refine wpAny_bind (wpAny_mono (Q := fun _ s => K .next s) (comp_core (K := fun _ s => K .next s) (use := some (assign (.Name id p') C.env)) (R := fun Cc v s => C.wp (assign (.Name id p') C.env v) (fun _ s => ∃ m, s.heap.Ns Cc m ∧ ∀ hp, Heap.SameBut Cc s.heap hp → K .next { s with heap := hp }) s) G.dn H hs h hp ci cg he q I (fun x v g₁ Cc q hx I X F hn f => ?_) fun Cc v f s z => z) (fun _ _ z => wpAny_pure (wpAny_pure z)) fun _ _ z => z)
   refine hv.1 (Q := fun fr h => Q .next fr h) G (kR _ _ q) hx I fun fr₂ g₂ q I Y => ?_
   have of : Off C g₁.α [Cc] := fun a z => List.mem_singleton.mp z ▸ F
   have st : ∀ a ∈ [Cc], Stands g₁.s.heap a := fun a z => List.mem_singleton.mp z ▸ hn.elim fun m y => y.elim fun o y => y.elim fun es y => y.elim fun ep y => ⟨o, y.1, noCode_of y.2.1 rfl⟩
   exact letGo (P := fun s => K .next s) I (of.ext st Y Cc (.head _)) (hn.elim fun m y => ⟨m, y.elim fun o y => y.elim fun es y => y.elim fun ep y => ⟨o, es, ep, of.keep Y Cc (.head _) o y.1, y.2⟩⟩) fun s' t I => k .next .next fr₂ ⟨g₂.α, g₂.h, s'⟩ q rfl I (ExtX.off (h' := g₂.h) (X.trans Y) (fun a z => List.mem_singleton.mp z ▸ f) t)
end
end Mine
namespace Mine
open PySem PySem.W PySem.Calls PyProof.Rows PyProof.V PySem.Spec PySem.SeqAt
theorem among_snoc {pos : Pos} {a b : Int} {c cv : Value} {P : Prop} : ∀ {l : List Value}, TriplesOk l → codeAmong pos (l ++ [rawInt a, rawInt b, c]) = some cv → (codeAmong pos l = some cv → P) → (cv = c → P) → P
 | [], _, e, _, k => by
  simp only [List.nil_append, rawInt, codeAmong] at e
  split at e
  ·cases e; exact k rfl
  ·cases e
 | .int x _ :: .int y _ :: z :: rest, h, e, k1, k => by
  simp only [List.cons_append, codeAmong] at e k1
  split at e
  ·next hc => rw [if_pos hc] at k1; exact k1 e
  ·next hc => rw [if_neg hc] at k1; exact among_snoc (l := rest) h e k1 k
section
variable {n : Nat} {C : Cx} {sc scope : Scope} {fr fr' : Fm} {g g₂ : Sg} {Q : AV → Hp → Prop} {K : Value → Shared → Prop} {pos : Pos}
theorem InvH.tabTurn {α : List Addr} {h : Hp} {s s' : Heap} (W : WdH C.B C.w C.mg C.mb) (I : InvH C fr α h s) (kp : ∀ b o, b ≠ tabA → s.get? b = some o → s'.get? b = some o) (T : TabOk α s') : InvH C fr α h s' :=
 I.chg (· = tabA) kp (fun b z => z ▸ W.tabB) (fun c x => x.keep fun o vs t e _ _ _ n => kp c o n e) T rfl I.sim.wf (fun j x b hx hb => .inr ⟨hx, fun z => I.sim.tabN (z ▸ List.mem_of_getElem? hb)⟩)
  (I.ns.keep (List.prefix_refl _) fun o e _ => ⟨o, kp _ o I.locT e, rfl⟩) I.cel fun b hb z => absurd z (I.FN b hb).2
theorem lamCells_get {fs : List Nat} : ∀ {cs : List (Nat × Nat)} {x j : Nat}, lamCells fr fs = some cs → cs.lookup x = some j → fr.cel x = some j ∧ x ∈ fs := by
 induction fs with
 | nil => intro cs x j e hl; cases e; cases hl
 | cons y fs ih =>
  intro cs x j e hl
  refine (Option.bind_eq_some_iff.mp e).elim fun k e => (Option.map_eq_some_iff.mp e.2).elim fun cs' e' => ?_
  rw [← e'.2, List.lookup_cons] at hl
  cases z : x == y with
  | true => rw [z] at hl; obtain rfl := beq_iff_eq.mp z; obtain rfl := Option.some.inj hl; exact ⟨e.1, .head _⟩
  | false => rw [z] at hl; exact (ih e'.1 hl).imp_right (.tail _)
theorem CL.ok {e : Expr} {b : IExpr} (h : CL sc e b) : OkE sc e b := by
 induction h with
 | idx hx hy => exact (sE_idx (fun _ _ => rfl) (sE_cel hx) (sE_loc hy)).ev
 | lst hx hy => exact (sE_list (Nat.le_of_ble_eq_true rfl) (.one (sE_idx (fun _ _ => rfl) (sE_cel hx) (sE_loc hy)))).ev
 | index hx hy hq => exact (sE_meth rfl (fun _ _ _ => rfl) (Nat.le_of_ble_eq_true rfl) hq (sE_cel hx) (.cons (sE_loc hy) .nil)).ev
end
end Mine
namespace Mine
open PySem PySem.W PySem.Calls PyProof.Rows PyProof.V PySem.Spec PySem.SeqAt
section
variable {n : Nat} {C : Cx} {sc scope : Scope} {fr fr' : Fm} {g g₂ : Sg} {Q : AV → Hp → Prop} {K : Value → Shared → Prop} {pos : Pos}
theorem LamOk.dfl {k : Nat} {ar : Arguments} {e : Expr} (h : LamOk k ar e sc) (env : Env) : defaultsOf ar env = ([], []) := LamOk.casesOn h fun _ _ _ _ _ _ _ _ ea _ _ => by subst ea; rfl
theorem LamOk.frs {k : Nat} {ar : Arguments} {e : Expr} {f : IFn} (h : LamOk k ar e sc) (hf : prog.fns[k]? = some f) : ofKind .free sc.names = f.free.map nm := LamOk.casesOn h fun _ f free _ _ _ _ _ _ _ _ => by cases f.symm.trans hf; exact free
theorem sE_lam {args : Arguments} {body : Expr} {k : Nat} (hls : lamSc sc = true) (hl : LamOk k args body scope) (hfr : ∀ n ∈ ofKind .free scope.names, CF sc n) : Ok sc (.Lambda args body scope pos) (.lam k) := okX (fun _ _ => rfl) (fun _ => rfl) fun {n C fr g Q K} G q I kk => by
 refine LamG.casesOn q fun f cs hf hcs q => (G.E.lam hls).2.elim fun c hc => kla_eval (hl.dfl _) ?_
 rw [(G.E.lam hls).1]
 have hcl := closureFor_eq (scope := scope) fun m hm => G.E.cells m (hfr m hm)
 have hgn : g.s.heap.Ns mainGlobals C.mg := G.W.g.keeps I.sim.base
 have hCs : CodeHd g.s.heap c tabA := by
  obtain ⟨o, vs, file, tf, flags, tg, inF, text, tt, h1, h2⟩ := hc.2
  exact ⟨o, vs, file, tf, flags, tg, inF, text, tt, I.sim.base _ _ h1, h2⟩
 have hbt : g.s.heap.BuiltinsAt C.mg tabA := by
  obtain ⟨bm, o, h1, h2, h3, h4, h5, h6⟩ := G.W.bat
  exact ⟨bm, o, h1, h2, h3, h4, I.sim.base _ _ h5, h6⟩
 have hfree := hl.frs hf
 have hcells : ∀ x j, cs.lookup x = some j → One g.α[j]? fun a => (closOf C.env.cells scope.names []).lookup (nm x) = some a := fun x j hx =>
  have z := lamCells_get hcs hx
  one_mono (I.cel x j z.1) fun a hlk => (closOf_lookup (by rw [hfree]; exact List.mem_map.mpr ⟨x, z.2, rfl⟩)).trans (by rw [hlk]; rfl)
 have hcov : ∀ m ∈ ofKind .free scope.names, ∃ a, (closOf C.env.cells scope.names []).lookup m = some a := fun m hm => ⟨_, closOf_lookup hm⟩
 refine TabOk.casesOn I.sim.tab fun {ps} hP ht hpc => ?_
 cases hca : codeAmong pos ps.toList with
 | some cv =>
  obtain ⟨c', rfl, hco⟩ := hpc pos cv hca
  refine kla_makeFunctionHit hcl G.E.glob hgn hc.1 hCs hP ht hca hbt fun ctv h' tk hk hsz => ?_
  have hfresh : g.s.heap.get? h'.objs.size = none := Heap.get?_none_of_le hsz
  have k2 : ∀ b' o, g.s.heap.get? b' = some o → (h'.push { cls := .type "function", data := .func (kla_fn "<lambda>" lq args body scope (closOf C.env.cells scope.names []) ((C.mg "__name__").getD .none) (.ref c') ctv) }).get? b' = some o := fun b' o e => Heap.get?_push_of_some _ (hk b' o e)
  exact kk.newK I k2 hfresh (Heap.get?_push_size _ rfl) q (OClos.mk hl (CodeOk.casesOn hco fun e d v n nt => ⟨k2 _ _ e, d, v, fun hm => (List.mem_append.mp hm).elim n fun z => some_ne e (List.mem_singleton.mp z ▸ hfresh), nt⟩) hcov fun x j hx => one_pre (List.prefix_append _ _) (hcells x j hx)) (alone rfl trivial)
 | none =>
  refine kla_makeFunction hcl G.E.glob hgn hc.1 hCs hP ht hca (Nat.ne_of_beq_eq_false rfl) hbt fun c' ctv h' tk hx hge hlt hrec hP' => ?_
  have k1 : ∀ b' o, b' ≠ tabA → g.s.heap.get? b' = some o → h'.get? b' = some o := fun b' o hb e => hx b' o hb e
  have F := InvH.free I (Heap.get?_none_of_le hge)
  have hco : CodeOk g.α h' c' lq := by
   obtain ⟨a, o, vs, t, e1, e2, e3, e4⟩ := hrec
   cases e1
   exact ⟨e2, e3, e4, F.α, F.T⟩
  have T' : TabOk g.α h' := ⟨hP', by simpa using TriplesOk_snoc _ _ _ _ ht, fun pos' cv hcv => among_snoc (l := ps.toList) (cv := cv) ht (by simpa using hcv) (fun z => (hpc pos' cv z).elim fun c1 y => ⟨c1, y.1, y.2.keep fun o vs t e _ _ _ n => k1 _ o n e⟩) fun z => ⟨c', z, hco⟩⟩
  have I' := InvH.tabTurn G.W I k1 T'
  have X' : Ext C g ⟨g.α, g.h, { g.s with heap := h', toks := tk }⟩ := ExtX.of (List.prefix_refl _) (fun _ h => .inl h) (fun b o _ _ n => k1 b o n) fun b o e => Classical.byCases (fun z : b = tabA => ⟨_, (congrArg _ z).trans hP'⟩) fun z => ⟨o, k1 b o z e⟩
  exact (kk.up X').push (g := ⟨g.α, g.h, { g.s with heap := h', toks := tk }⟩) I' q (OClos.mk hl (CodeOk.casesOn hco fun e d v n nt => ⟨Heap.get?_push_of_some _ e, d, v, fun hm => (List.mem_append.mp hm).elim n fun z => Nat.lt_irrefl _ (List.mem_singleton.mp z ▸ hlt), nt⟩) hcov fun x j hx => one_pre (List.prefix_append _ _) (hcells x j hx)) (alone rfl trivial)
end
end Mine
namespace Mine
open PySem PySem.W PySem.Calls PyProof.Rows PyProof.V PySem.Spec PySem.SeqAt
noncomputable def Cx.into (C : Cx) (env : Env) : Cx := ⟨C.B, C.w, C.mg, C.mb, C.A.deeper env, env⟩
theorem ExtX.chgF {X F F' : List Addr} {g g' : Sg} (x : ExtX X F g g') (h : ∀ b, b ∉ F' → b ∉ F) : ExtX X F' g g' :=
 ⟨x.pre, x.new, fun b o e => Kept.casesOn (x.at_ b o e) fun o' e' k => ⟨o', e', fun n1 n2 n3 => ⟨fun z => (k n1 n2 n3).1 (h b z), (k n1 n2 n3).2⟩⟩, x.gens, x.os⟩
section
variable {n : Nat} {C : Cx} {sc scope : Scope} {fr fr' : Fm} {g g₁ g₃ g₄ : Sg} {env : Env} {Q : AV → Hp → Prop} {K : Value → Shared → Prop} {P : Prop}
theorem deeper_frames {A : Around} {l : List Env} (h : A.frames = some l) : (A.deeper env).frames = some (env :: l) := by
 unfold Around.deeper
 simp [h]
theorem frs_deeper {A : Around} {l : List Env} (h : A.frames = some l) (hf : env.frame = some env.locals) : frs (A.deeper env) = env.locals :: frs A := by
 unfold frs
 rw [deeper_frames h, h, Option.getD_some, List.filterMap_cons, hf]
 rfl
theorem AOk.deeper {A : Around} (h : AOk (n + 1) A) : AOk n (A.deeper env) := ⟨h.handled, by have := h.depth; show A.depth + 1 + n < 900; lia, by have := h.units; show A.units + 3 + 20 * n < 9000; lia⟩
theorem enter_inv {α : List Addr} {h : Hp} {s : Heap} (I : InvH C fr α h s) (F : Free C α env.locals) (hf : env.frame = some env.locals) (hk : env.scope.kind = .function) (hN : NsR α fr' env.locals s) (hc : ∀ x k, fr'.cel x = some k → One α[k]? fun a => env.cells.lookup (nm x) = some a) : InvH (C.into env) fr' α h s :=
 Frs.casesOn I.FF fun {l} hA hl => {
  sim := ⟨I.sim.len, I.sim.nd, I.sim.obj, I.sim.base, I.sim.own, I.sim.tab, I.sim.tabN, I.sim.wf⟩
  ns := hN
  cel := hc
  locN := F.α
  locB := F.B
  locT := F.T
  FN := fun b hb => (List.mem_cons.mp (frs_deeper hA hf ▸ hb)).elim (fun z : b = env.locals => ⟨fun q => F.α (z ▸ q), fun q => F.T (z ▸ q)⟩) (I.FN b)
  FF := ⟨deeper_frames hA, by rw [hk]; nofun, hN.at.elim fun o z => ⟨env.locals, o, hf, F.B, z.1, z.2⟩, hl⟩
  hd := ⟨env, l, deeper_frames hA, rfl⟩ }
theorem leave (X₁ : Ext C g g₃) (I₃ : Inv C fr g₃) (hL : g.s.heap.get? env.locals = none) (n : C.L ≠ env.locals) (hf : env.frame = some env.locals) (I₄ : Inv (C.into env) fr' g₄) (X₄ : Ext (C.into env) g₃ g₄) (k : Inv C fr g₄ → Ext C g g₄ → P) : P :=
 Frs.casesOn I₃.FF fun {l} hA hl => by
  have X₄ : ExtX [env.locals] (env.locals :: frs C.A) g₃ g₄ := frs_deeper hA hf ▸ X₄
  have nL : C.L ∉ [env.locals] := fun z => n (List.mem_singleton.mp z)
  refine k {
   sim := ⟨I₄.sim.len, I₄.sim.nd, I₄.sim.obj, I₄.sim.base, I₄.sim.own, I₄.sim.tab, I₄.sim.tabN, I₄.sim.wf⟩
   ns := I₃.ns.keep X₄.pre fun o e _ => (X₄.keepF I₃.locN nL I₃.locT e).elim fun sl z => ⟨_, z, rfl⟩
   cel := fun x k e => one_pre X₄.pre (I₃.cel x k e)
   locN := I₃.ns.at.elim fun o z => X₄.notin I₃.locN z.1
   locB := I₃.locB
   locT := I₃.locT
   FN := fun b hb => I₄.FN b ((frs_deeper hA hf).symm ▸ .tail _ hb)
   FF := Frs.casesOn I₄.FF fun {l'} hA' hl' => ⟨hA, by
    cases (deeper_frames hA).symm.trans hA'
    exact hl'.2.2⟩
   hd := I₃.hd } ?_
  have nb : ∀ b o, g.s.heap.get? b = some o → b ≠ env.locals := fun b o e z => some_ne e (z ▸ hL)
  exact (ExtX.chgF X₁ (fun b z y => z (.tail _ y))).comp X₄ (fun a o _ n2 e => ⟨n2, fun z => nb a o e (List.mem_singleton.mp z)⟩) fun a o e n4 z => (List.mem_cons.mp z).elim (nb a o e) n4
end
end Mine
namespace Mine
open PySem PySem.W PySem.Calls PyProof.Rows PyProof.V PySem.Spec PySem.SeqAt
section
variable {α : List Addr} {b : List (Nat × AV)} {bs : List (Str × Value)}
theorem kr_lookup {x : Nat} (r : LR (KR α) b bs) : OptR (VR α) (b.lookup x) (bs.lookup (nm x)) := by
 induction r with
 | nil => trivial
 | @cons p q _ _ h _ ih =>
  obtain ⟨k, v⟩ := p
  obtain ⟨k', u⟩ := q
  obtain ⟨h1, h2⟩ := h
  obtain rfl : k' = nm k := h1
  rw [List.lookup_cons, List.lookup_cons]
  by_cases e : x = k
  ·subst e
   rw [beq_self_eq_true, beq_self_eq_true]
   exact h2
  ·rw [beq_eq_false_iff_ne.mpr e, beq_eq_false_iff_ne.mpr fun z => e (nmI z)]
   exact ih
theorem kr_names (r : LR (KR α) b bs) : bs.map (·.1) = (b.map (·.1)).map nm := by
 induction r with
 | nil => rfl
 | cons h _ ih => rw [List.map_cons, List.map_cons, List.map_cons, ih, h.1]
theorem KR.mono {α' : List Addr} (p : α <+: α') (r : LR (KR α) b bs) : LR (KR α') b bs := r.mono fun _ _ z => ⟨z.1, z.2.mono p⟩
end
theorem bindAll_names {sl dfl : List (Nat × AV)} {xs : List Nat} : ∀ {b : List (Nat × AV)}, bindAll sl dfl xs = some b → b.map (·.1) = xs := by
 induction xs with
 | nil => intro b e; cases e; rfl
 | cons x xs ih => exact fun e => (Option.bind_eq_some_iff.mp e).elim fun v e => (Option.map_eq_some_iff.mp e.2).elim fun b' e => by rw [← e.2, List.map_cons, ih e.1]
theorem abind_names {f : IFn} {as : List AV} {kw : List (Nat × AV)} {h h1 : Hp} {b : List (Nat × AV)} (e : abind f as kw h = some (b, h1)) (hk : f.var = none ∨ f.kwo = []) : b.map (·.1) = f.params ++ f.kwo.map (·.1) ++ f.var.toList := by
 unfold abind at e
 cases hv : f.var with
 | none =>
  rw [hv] at e
  dsimp only at e
  split at e
  ·refine (Option.map_eq_some_iff.mp e).elim fun b' e => ?_
   cases e.2
   exact (bindAll_names e.1).trans (List.append_nil _).symm
  ·cases e
 | some v =>
  rw [hv] at e
  dsimp only at e
  split at e
  ·next hc =>
   cases e
   rw [hk.resolve_left (by rw [hv]; nofun), List.map_append, List.map_fst_zip hc.1, List.map_nil, List.append_nil]
   rfl
  ·cases e
theorem none_lookup {n : Str} {bs : List (Str × Value)} (h : n ∉ bs.map (·.1)) : bs.lookup n = none := by
 induction bs with
 | nil => rfl
 | cons p bs ih => rw [show p :: bs = (p.1, p.2) :: bs from rfl, lookup_ne (fun z : n = p.1 => h (z ▸ .head _)), ih fun z => h (.tail _ z)]
section
variable {kd : Str → Option NameKind} {n : Str} {bs : List (Str × Value)}
theorem bindL_eq (hk : kd n = some .local) : ∀ {m : Str → Option Value}, (bs.map (·.1)).Nodup → bindL kd bs m n = (bs.lookup n).or (m n) := by
 induction bs with
 | nil => exact fun _ => rfl
 | cons p bs ih =>
  intro m hn
  have hn := List.nodup_cons.mp hn
  show bindL kd bs _ n = _
  rw [ih hn.2]
  by_cases e : n = p.1
  ·subst e
   rw [none_lookup hn.1, Option.none_or, if_pos hk, show p :: bs = (p.1, p.2) :: bs from rfl, lookup_eq, Option.some_or]
   exact if_pos rfl
  ·rw [show p :: bs = (p.1, p.2) :: bs from rfl, lookup_ne e]
   congr 1
   split
   ·exact if_neg e
   ·rfl
theorem bindC_eq (hk : kd n ≠ some .local) : ∀ {m : Str → Option Value}, (bs.map (·.1)).Nodup → bindC kd bs m n = (bs.lookup n).or (m n) := by
 induction bs with
 | nil => exact fun _ => rfl
 | cons p bs ih =>
  intro m hn
  have hn := List.nodup_cons.mp hn
  show bindC kd bs _ n = _
  rw [ih hn.2]
  by_cases e : n = p.1
  ·subst e
   rw [none_lookup hn.1, Option.none_or, if_neg hk, show p :: bs = (p.1, p.2) :: bs from rfl, lookup_eq, Option.some_or]
   exact if_pos rfl
  ·rw [show p :: bs = (p.1, p.2) :: bs from rfl, lookup_ne e]
   congr 1
   split
   ·rfl
   ·exact if_neg e
end
end Mine
namespace Mine
open PySem PySem.W PySem.Calls PyProof.Rows PyProof.V PySem.Spec PySem.SeqAt
noncomputable def FnBind (B : Heap) (f : IFn) (fd : FuncData) : Prop := ∀ {C : Cx} {A' : Around} {fr : Fm} {g : Sg} {as : List AV} {vs : List Value} {kw : List (Nat × AV)} {ks : List (Str × Value)} {b : List (Nat × AV)} {h1 : Hp} {K : List (Str × Value) → Shared → Prop} {E : Value → Shared → Prop},
 C.B = B → Inv C fr g → abind f as kw g.h = some (b, h1) → LR (VR g.α) as vs → LR (KR g.α) kw ks → (∀ binds g', g'.h = h1 → LR (KR g'.α) b binds → Inv C fr g' → Ext C g g' → K binds g'.s) → wpAny C.M A' (bindArgs fd ⟨vs, ks⟩) K E g.s
noncomputable def IFn.ps (f : IFn) : List Nat := f.params ++ f.kwo.map (·.1) ++ f.var.toList
structure FnOk (B : Heap) (k : Nat) (f : IFn) (fd : FuncData) (body : List Stmt) : Prop where
 obj : ∃ o, B.get? (fad k) = some o ∧ o.data = .func fd
 stm : fd.body = .stmts body
 cb : OkB fd.scope body f.body
 clo : fd.closure = []
 glob : fd.globals = mainGlobals
 blt : fd.builtins = builtinsNs
 kind : fd.scope.kind = .function
 cor : fd.scope.isCoroutine = false
 gen : fd.scope.isGenerator = false
 crec : B.CodeRec fd.code fd.qualname
 cells : ofKind .cell fd.scope.names = f.cells.map nm
 celN : f.cells.Nodup
 free : ofKind .free fd.scope.names = []
 nodup : f.ps.Nodup
 kinds : ∀ x ∈ f.ps, fd.scope.names.lookup (nm x) = some (if f.cells.contains x then .cell else .local)
 kindC : ∀ x ∈ f.cells, fd.scope.names.lookup (nm x) ≠ some .local
 lam : lamSc fd.scope = true → (fd.qualname ++ ".<locals>.") ++ "<lambda>" = lq ∧ ∃ c, fd.code = .ref c ∧ CodeHd B c tabA
 bind : FnBind B f fd
 var : f.var = none ∨ f.kwo = []
section
variable {n : Nat} {C : Cx} {sc scope : Scope} {fr fr' : Fm} {g g₁ g₃ g₄ : Sg} {Q : AV → Hp → Prop} {P : Prop}
theorem FnOk.own {B : Heap} {k : Nat} {f : IFn} {fd : FuncData} {body : List Stmt} (F : FnOk B k f fd body) {base i x : Nat} (hx : f.cells[i]? = some x) : (cellsFrom base fd.scope.names []).lookup (nm x) = some (base + i) :=
 cellsFrom_own (by rw [F.cells]; exact nm_nodup F.celN) (by rw [F.cells, List.getElem?_map, hx]; rfl)
theorem mem_lookup {b : List (Nat × AV)} {y : Nat} {v : AV} (e : b.lookup y = some v) : y ∈ b.map (·.1) := by
 induction b with
 | nil => exact noS e
 | cons p b ih =>
  rw [show p :: b = (p.1, p.2) :: b from rfl, List.lookup_cons] at e
  cases z : y == p.1 with
  | true => rw [beq_iff_eq.mp z]; exact .head _
  | false => rw [z] at e; exact .tail _ (ih e)
noncomputable def retV : Flow → Value
 | .ret v => v
 | _ => .none
theorem retK {env : Env} {R : Result → Shared → Prop} {f : Flow} {fl : AFlow} (K' : KE C fr g Q fun v s => R (.ok (.ret v)) s) (X₁ : Ext C g g₃) (I₃ : Inv C fr g₃) (hL : g.s.heap.get? env.locals = none) (n : C.L ≠ env.locals) (hf : env.frame = some env.locals) (q : onRet Q fl fr' g₄.h) (hfl : FlowR g₄.α fl f) (I₄ : Inv (C.into env) fr' g₄) (X₄ : Ext (C.into env) g₃ g₄) :
  R (.ok (.ret (retV f))) g₄.s :=
 leave X₁ I₃ hL n hf I₄ X₄ fun I X => by
  induction fl with
  | next => exact (show .next = f from hfl) ▸ K' .none .none g₄ q rfl I X
  | brk => exact q.elim
  | cont => exact q.elim
  | ret v => exact (show ∃ w, f = .ret w ∧ VR g₄.α v w from hfl).elim fun w z => z.1.symm ▸ K' w v g₄ q z.2 I X
theorem run_fn {k : Nat} {f : IFn} {fd : FuncData} {body : List Stmt} {as : List AV} {kw : List (Nat × AV)} {vs : List Value} {ks : List (Str × Value)} {R : Result → Shared → Prop} (W : WdH C.B C.w C.mg C.mb) (F : FnOk C.B k f fd body) (Ao : AOk (n + 1) C.A) (S : ∀ m, m ≤ n → SC C.B C.w C.mg C.mb m)
  (q : runF (go n) f [] as kw g.h Q) (I : Inv C fr g) (hvs : LR (VR g.α) as vs) (hks : LR (KR g.α) kw ks) (K' : KE C fr g Q fun v s => R (.ok (.ret v)) s) : codeAny C.M C.A (.call (.ref (fad k)) ⟨vs, ks⟩) R g.s :=
 runF.casesOn q fun b h1 hb q => F.obj.elim fun o ho => by
  have hcd : g.s.heap.CodeRec fd.code fd.qualname := by
   obtain ⟨c, oc, vc, tc, e1, e2, e3⟩ := F.crec
   exact ⟨c, oc, vc, tc, e1, I.sim.base _ _ e2, e3⟩
  have hnames := abind_names hb F.var
  refine codeAny_call_function (Nat.lt_of_le_of_lt (Nat.le_add_right _ _) (Nat.lt_of_lt_of_le Ao.depth (Nat.le_of_ble_eq_true rfl))) (I.sim.base _ _ ho.1) ho.2 F.cor F.gen F.stm hcd (F.bind rfl I hb hvs hks fun binds g₁ e₁ hr I₁ X₁ => ?_)
  subst e₁
  have hbn : binds.map (·.1) = f.ps.map nm := by rw [kr_names hr, hnames]; rfl
  have hbnd : (binds.map (·.1)).Nodup := hbn ▸ nm_nodup F.nodup
  rw [F.clo]
  refine wpAny_newFunctionEnv_cells F.kind (fun p hp => ?_) fun env' he s₂ x => ?_
  ·have hm : p.1 ∈ f.ps.map nm := hbn ▸ List.mem_map.mpr ⟨p, hp, rfl⟩
   refine (List.mem_map.mp hm).elim fun y hy => ?_
   have hkd := F.kinds y hy.1
   rw [← hy.2]
   by_cases hc : f.cells.contains y
   ·rw [if_pos hc] at hkd
    exact .inr ⟨hkd, (List.mem_iff_getElem?.mp (List.contains_iff_mem.mp hc)).elim fun i e => by rw [F.own e]; rfl⟩
   ·rw [if_neg hc] at hkd
    exact .inl hkd
  ·subst he
   have k12 := x.toInCall.keep
   obtain ⟨h₂, tk₂, rfl⟩ := x.toInCall.same
   generalize hE : newEnv fd.scope g₁.s.heap.objs.size fd.globals (cellsFrom (g₁.s.heap.objs.size + 1) fd.scope.names []) (fd.qualname ++ ".<locals>.") (some (fad k)) fd.code none fd.builtins = env' at x
   have eL : env'.locals = g₁.s.heap.objs.size := hE ▸ rfl
   have eF : env'.frame = some env'.locals := hE ▸ rfl
   have eS : env'.scope = fd.scope := hE ▸ rfl
   have eC : env'.cells = cellsFrom (g₁.s.heap.objs.size + 1) fd.scope.names [] := hE ▸ rfl
   have hLf : g₁.s.heap.get? env'.locals = none := by rw [eL]; exact fresh_size _
   have E' : EnvH C.B env' fd.scope := ⟨eS, F.kind, hE ▸ F.glob, hE ▸ F.blt, fun m hm => by
    refine (List.mem_map.mp (F.cells ▸ mem_ofKind (hm.resolve_right fun z => List.not_mem_nil (F.free ▸ mem_ofKind z)))).elim fun y hy => (List.mem_iff_getElem?.mp hy.1).elim fun i e => ?_
    rw [eC, ← hy.2]
    exact ⟨_, F.own e⟩, fun hl => by rw [← hE]; exact F.lam hl⟩
   have hko : ∀ y, env'.kindOf y = fd.scope.names.lookup y := fun y => by unfold Env.kindOf; rw [eS]
   have fz : ∀ i, g₁.s.heap.get? (g₁.s.heap.objs.size + 1 + i) = none := fun i => Heap.get?_none_of_le (Nat.le_trans (Nat.le_succ _) (Nat.le_add_right _ _))
   have I₃ : InvH C fr _ (g₁.h ++ f.cells.map fun y => .cell (b.lookup y)) h₂ := InvH.adoptCells (v := fun y => b.lookup y) (own := f.cells) (b := g₁.s.heap.objs.size + 1) (InvH.keeps I₁ k12) fun i y e => by
    have kc : env'.kindOf (nm y) ≠ some .local := by rw [hko]; exact F.kindC y (List.mem_of_getElem? e)
    refine (x.cell (nm y) _ (by rw [eC]; exact F.own e)).elim fun o z => ⟨⟨o, z.1, ⟨z.2, ?_⟩⟩, InvH.free I₁ (fz i)⟩
    rw [bindC_eq kc hbnd, Option.or_none]
    exact kr_lookup hr
   have FL := InvH.free I₁ hLf
   have FL3 : Free C (g₁.α ++ List.range' (g₁.s.heap.objs.size + 1) f.cells.length) env'.locals := ⟨fun hm => (List.mem_append.mp hm).elim FL.α fun z => Nat.lt_irrefl _ (eL ▸ (List.mem_range'_1.mp z).1), FL.L, FL.F, FL.T, FL.B⟩
   have p3 : g₁.α <+: g₁.α ++ List.range' (g₁.s.heap.objs.size + 1) f.cells.length := List.prefix_append _ _
   have I' := enter_inv (fr' := (enterF f [] b g₁.h).1) I₃ FL3 eF (by rw [eS]; exact F.kind) (.mk x.toInCall.ns fun y v hy => by
    replace hy : (if f.cells.contains y then none else b.lookup y) = some v := hy
    split at hy
    ·exact noS hy
    ·next hnc =>
     have hkd := F.kinds y (by unfold IFn.ps; rw [← hnames]; exact mem_lookup hy)
     rw [if_neg hnc] at hkd
     exact One.casesOn ((kr_lookup (x := y) hr).some_left hy) fun u hu hvr => ⟨u, by rw [bindL_eq ((hko _).trans hkd) hbnd, hu]; rfl, hvr.mono p3⟩) fun y kk hy => by
    replace hy : (cellIdx g₁.h.length f.cells y).or none = some kk := hy
    rw [Option.or_none] at hy
    refine (cellIdx_own hy).elim fun i z => ⟨g₁.s.heap.objs.size + 1 + i, ?_, by rw [eC]; exact F.own z.1⟩
    rw [z.2, ← I₁.sim.len, List.getElem?_append_right (Nat.le_add_right _ _), Nat.add_sub_cancel_left, List.getElem?_range' (List.getElem?_eq_some_iff.mp z.1).1, Nat.one_mul]
   have X₃ : Ext C g ⟨_, g₁.h ++ f.cells.map fun y => .cell (b.lookup y), { g₁.s with heap := h₂, toks := tk₂ }⟩ := X₁.trans (ExtX.of p3 (fun a ha => (List.mem_append.mp ha).imp_right fun z => Heap.get?_none_of_le (Nat.le_of_succ_le (List.mem_range'_1.mp z).1)) (fun b o _ _ _ => k12 b o) fun b o e => ⟨o, k12 b o e⟩)
   refine ⟨W.nolimit.keeps I₃.sim.base, codeAny_func (Cx.wp.E (C := C.into env') (F.cb (g := ⟨_, _, { g₁.s with heap := h₂, toks := tk₂ }⟩) ⟨W, E', Ao.deeper, S⟩ q I' fun fw fl fr₄ g₄ q hfl I₄ X₄ => retK K' X₃ I₃ (X₁.fresh hLf) FL.L.symm eF q hfl I₄ X₄))⟩
end
end Mine
namespace Mine
open PySem PySem.W PySem.Calls PyProof.Rows PyProof.V PySem.Spec PySem.SeqAt
theorem ret_ev {n : Nat} {b : IExpr} {fr : Fm} {h : Hp} {Q : AFlow → Fm → Hp → Prop} (q : (go n).ex [.ret b] fr h Q) : ∃ m, m ≤ n ∧ (go m).ev b fr h fun v h => Q (.ret v) fr h := by
 induction n with
 | zero => exact q.elim
 | succ n => exact MonX.casesOn q fun R q k => MonX.casesOn q fun R' q k' => ⟨n, Nat.le_succ n, ev_mono q fun v h z => k _ _ _ (k' _ _ _ z)⟩
inductive LamB (as : List AV) (kw : List (Nat × AV)) (h : Hp) (x : Nat) (b : List (Nat × AV)) (h1 : Hp) : Prop | mk (v : AV) (ea : as = [v]) (ek : kw = []) (eb : b = [(x, v)]) (eh : h1 = h) : LamB as kw h x b h1
theorem lam_bind {x : Nat} {fs : List Nat} {body : List IStmt} {as : List AV} {kw : List (Nat × AV)} {h h1 : Hp} {b : List (Nat × AV)} (e : abind ⟨[x], [], [], none, [(1, [])], [], fs, false, body⟩ as kw h = some (b, h1)) : LamB as kw h x b h1 := by
 unfold abind at e
 dsimp only at e
 split at e
 ·next hc =>
  have hc := List.mem_singleton.mp (List.contains_iff_mem.mp hc)
  obtain rfl := List.map_eq_nil_iff.mp (congrArg Prod.snd hc)
  refine (List.length_eq_one_iff.mp (congrArg Prod.fst hc)).elim fun v hv => ?_
  subst hv
  have e' : bindAll ([x].zip [v] ++ []) [] [x] = some [(x, v)] := by
   unfold bindAll
   rw [show ([x].zip [v] ++ [] : List (Nat × AV)).lookup x = some v from by simp]
   rfl
  have e : (bindAll ([x].zip [v] ++ []) [] [x]).map (fun b => (b, h)) = some (b, h1) := e
  rw [e'] at e
  cases e
  exact ⟨v, rfl, rfl, rfl, rfl⟩
 ·cases e
section
variable {n : Nat} {C : Cx} {fr fr' : Fm} {g g₁ g₃ g₄ : Sg} {Q : AV → Hp → Prop} {P : Prop}
theorem run_lam {k j : Nat} {cs : List (Nat × Nat)} {f : IFn} {a : Addr} {as : List AV} {kw : List (Nat × AV)} {vs : List Value} {ks : List (Str × Value)} {R : Result → Shared → Prop} (W : WdH C.B C.w C.mg C.mb) (Ao : AOk (n + 1) C.A) (S : ∀ m, m ≤ n → SC C.B C.w C.mg C.mb m) (hk : g.h[k]? = some (.clos j cs)) (ha : g.α[k]? = some a)
  (hf : prog.fns[j]? = some f) (q : runF (go n) f cs as kw g.h Q) (I : Inv C fr g) (hvs : LR (VR g.α) as vs) (hks : LR (KR g.α) kw ks) (K' : KE C fr g Q fun v s => R (.ok (.ret v)) s) : codeAny C.M C.A (.call (.ref a) ⟨vs, ks⟩) R g.s := by
 refine obAt I hk ha fun c hc r => OClos.casesOn (motive := fun c _ => g.s.heap.get? a = some c → _) r (fun {ar e sc c' cl pm ctv} hl hco hcov hcel ho => ?_) hc
 refine LamOk.casesOn hl fun {b x fs p} hb f' free kind cor gen nocell lamSc ea lx bl => ?_
 cases f'.symm.trans hf
 subst ea
 refine runF.casesOn q fun bb h1 hbind q => LamB.casesOn (lam_bind hbind) fun v ea ek eb eh => ?_
 subst ea ek eb eh
 refine hvs.c1 fun u hu => hks.n (C := fun ks => codeAny C.M C.A (.call (.ref a) ⟨[u], ks⟩) R g.s) ?_
 refine kla_callFunE (Nat.lt_of_le_of_lt (Nat.le_add_right _ _) (Nat.lt_of_lt_of_le Ao.depth (Nat.le_of_ble_eq_true rfl))) ho rfl cor gen rfl hco.crec ?_
 rw [bl]
 refine wpAny_pure (wpAny_newFunctionEnv nocell (fun y hy => by rw [List.mem_singleton.mp hy]; exact lx) (fun h₂ hns hsb => ?_) kind)
 generalize hE : newEnv sc g.s.heap.objs.size mainGlobals cl (lq ++ ".<locals>.") (some a) (.ref c') none builtinsNs = env'
 have eL : env'.locals = g.s.heap.objs.size := hE ▸ rfl
 have eF : env'.frame = some env'.locals := hE ▸ rfl
 have eS : env'.scope = sc := hE ▸ rfl
 have eC : env'.cells = cl := hE ▸ rfl
 have hLf : g.s.heap.get? env'.locals = none := by rw [eL]; exact fresh_size _
 have k12 : ∀ b o, g.s.heap.get? b = some o → h₂.get? b = some o := fun b o e => (hsb.2 b (fun z => some_ne e (z ▸ fresh_size _))).trans (Heap.get?_push_of_some _ e)
 have FL := InvH.free I hLf
 have E' : EnvH C.B env' sc := ⟨eS, kind, hE ▸ rfl, hE ▸ rfl, fun m hm => by
  rw [eC]
  exact hm.elim (fun hm => (List.mem_map.mp (mem_ofKind hm)).elim fun p hp => absurd (beq_iff_eq.mp (List.mem_filter.mp hp.1).2) (nocell p (List.mem_filter.mp hp.1).1)) fun hm => hcov m (mem_ofKind hm), fun hls => Bool.noConfusion (hls.symm.trans lamSc)⟩
 have I₃ : InvH C fr g.α g.h h₂ := InvH.keeps I k12
 have I' := enter_inv (fr' := ⟨fun y => List.lookup y [(x, v)], fun y => cs.lookup y⟩) I₃ FL eF (by rw [eS]; exact kind) (.mk (eL ▸ hns) fun y w hy => by
  replace hy : [(x, v)].lookup y = some w := hy
  rw [List.lookup_cons] at hy
  cases z : y == x with
  | true => rw [z] at hy; cases hy; exact ⟨u, by simp [beq_iff_eq.mp z], hu⟩
  | false => rw [z] at hy; exact noS hy) fun y i hy => one_mono (hcel y i hy) fun a z => eC ▸ z
 have X₃ : Ext C g ⟨g.α, g.h, { g.s with heap := h₂, toks := g.s.toks + 1 }⟩ := ExtX.keeps k12
 refine (ret_ev q).elim fun m q => ⟨W.nolimit.keeps I₃.sim.base, kla_codeExpr (Cx.wp.E (C := C.into env') (hb.ok (g := ⟨_, _, { g.s with heap := h₂, toks := g.s.toks + 1 }⟩) ⟨W, E', Ao.deeper.mono q.1, fun k l => S k (Nat.le_trans l q.1)⟩ (by simpa [enterF, cellIdx] using q.2) I' fun w y g₄ q hw I₄ X₄ => ?_))⟩
 exact retK (f := .ret w) (fl := .ret y) K' X₃ I₃ hLf FL.L.symm eF q ⟨w, rfl, hw⟩ I₄ X₄
end
end Mine
namespace Mine
open PySem PySem.W PySem.Calls PyProof.Rows PyProof.V PySem.Spec PySem.SeqAt
section
variable {n : Nat} {C : Cx} {fr fr' : Fm} {g g₁ g₃ g₄ : Sg} {Q : AV → Hp → Prop} {P : Prop}
noncomputable def Cx.out (C : Cx) (A : Around) : Cx := { C with A := A }
theorem under_frames {A : Around} (id : String) (args : Args) : (A.under (.builtin id args)).frames = A.frames := by
 show pushEnvs [] A.frames = A.frames
 cases A.frames <;> rfl
theorem AOk.under {A : Around} {args : Args} (Ao : AOk (n + 1) A) : AOk n (A.under (.builtin "type.__call__" args)) := by
 have w : (Code.builtin "type.__call__" args).weight ≤ 1 := by
  unfold Code.weight
  have h1 : (Code.builtin "type.__call__" args).frames = 0 := by rfl
  have h2 : (Code.builtin "type.__call__" args).isCaller = false := by rfl
  have h3 : (Code.builtin "type.__call__" args).isGuard = false := by rfl
  rw [h1, h2, h3]
  split <;> simp
 have u : (Code.builtin "type.__call__" args).cUnits = 1 := by rfl
 exact ⟨Ao.handled, by have := Ao.depth; show A.depth + (Code.builtin "type.__call__" args).weight + n < 900; lia, by have := Ao.units; show A.units + (Code.builtin "type.__call__" args).cUnits + 20 * n < 9000; rw [u]; lia⟩
theorem InvH.around {A : Around} {α : List Addr} {h : Hp} {s : Heap} (e : A.frames = C.A.frames) (I : InvH C fr α h s) : InvH (C.out A) fr α h s :=
 have hf : frs A = frs C.A := by unfold frs; rw [e]
 {
  sim := ⟨I.sim.len, I.sim.nd, I.sim.obj, I.sim.base, I.sim.own, I.sim.tab, I.sim.tabN, I.sim.wf⟩
  ns := I.ns
  cel := I.cel
  locN := I.locN
  locB := I.locB
  locT := I.locT
  FN := fun b hb => I.FN b (hf ▸ hb)
  FF := Frs.casesOn I.FF fun e' f => ⟨e.trans e', f⟩
  hd := I.hd.elim fun e0 z => z.elim fun o z => ⟨e0, o, e.trans z.1, z.2⟩ }
theorem InvH.aroundB {A : Around} {α : List Addr} {h : Hp} {s : Heap} (e : A.frames = C.A.frames) (I : InvH (C.out A) fr α h s) : InvH C fr α h s := InvH.around (C := C.out A) (A := C.A) e.symm I
theorem sC_mk {b : Bool} {as : List AV} {kw : List (Nat × AV)} {vs : List Value} {ks : List (Str × Value)} {R : Result → Shared → Prop} {o1 o2 : AObj} (W : WdH C.B C.w C.mg C.mb) (Ao : AOk (n + 1) C.A) (S : SC C.B C.w C.mg C.mb n) (hk : C.env.scope.kind = .function)
  (I : Inv C fr g) (hvs : LR (VR g.α) as vs) (hks : LR (KR g.α) kw ks) (K' : KE C fr g Q fun v s => R (.ok (.ret v)) s)
  (r1 : ∀ {α s}, ObjR α s C.w o1 emptyDict) (w1 : WF (g.h ++ [o1])) (r2 : ∀ {α s} {d : Addr}, α[g.h.length]? = some d → ObjR α s C.w o2 (instObj (clsA b) d)) (w2 : WF (g.h ++ [o1] ++ [o2]))
  (q : (go n).cl (.fn (iniF b)) (.ref (g.h.length + 1) :: as) kw (g.h ++ [o1] ++ [o2]) fun v h' => v = .none ∧ Q (.ref (g.h.length + 1)) h') : codeAny C.M C.A (.call (.ref (clsA b)) ⟨vs, ks⟩) R g.s := by
 have X := inK W I
 obtain ⟨α, h, hp, gn, d, t, os⟩ := g
 refine make_core (makes_of X (mkF _ b)) (looks_findIn X (inF _ b)) (fun self => bind_fn X self (ifF _ b)) (.inl rfl) ?_
 have el : α.length = h.length := I.sim.len
 have hsz : (hp.push emptyDict).objs.size = hp.objs.size + 1 := Heap.size_push ..
 have k1 : ∀ b' o, hp.get? b' = some o → (hp.push emptyDict).get? b' = some o := fun b' o e => Heap.get?_push_of_some _ e
 have k2 : ∀ b' o, (hp.push emptyDict).get? b' = some o → ((hp.push emptyDict).push (instObj (clsA b) hp.objs.size)).get? b' = some o := fun b' o e => Heap.get?_push_of_some _ e
 have f1 := InvH.free I (fresh_size hp)
 have I1 : InvH C fr (α ++ [hp.objs.size]) (h ++ [o1]) (hp.push emptyDict) := InvH.adopt (InvH.keeps I k1) f1 (Heap.get?_push_size _ rfl) rfl r1 w1
 have I2 : InvH C fr (α ++ [hp.objs.size] ++ [hp.objs.size + 1]) (h ++ [o1] ++ [o2]) ((hp.push emptyDict).push (instObj (clsA b) hp.objs.size)) :=
  InvH.adopt (I1.keeps k2) (hsz ▸ I1.free (fresh_size (hp.push emptyDict))) (hsz ▸ Heap.get?_push_size _ rfl) rfl (r2 (get_snoc (snoc_at el))) w2
 have hx : VR (α ++ [hp.objs.size] ++ [hp.objs.size + 1]) (.ref (h.length + 1)) (.ref (hp.objs.size + 1)) := .mk (snoc_at (by rw [List.length_append, el]; rfl))
 have X2 : Ext C ⟨α, h, ⟨hp, gn, d, t, os⟩⟩ ⟨α ++ [hp.objs.size] ++ [hp.objs.size + 1], h ++ [o1] ++ [o2], ⟨(hp.push emptyDict).push (instObj (clsA b) hp.objs.size), gn, d, t, os⟩⟩ :=
  ExtX.adopt (g' := ⟨α ++ [hp.objs.size], h ++ [o1], ⟨(hp.push emptyDict).push (instObj (clsA b) hp.objs.size), gn, d, t, os⟩⟩) (ExtX.adopt (g' := ⟨α, h, ⟨(hp.push emptyDict).push (instObj (clsA b) hp.objs.size), gn, d, t, os⟩⟩) (ExtX.keeps fun b o e => k2 b o (k1 b o e)) (fresh_size hp)) (Heap.get?_none_of_le (Nat.le_succ _))
 have e := under_frames (A := C.A) "type.__call__" ⟨.ref (clsA b) :: vs, ks⟩
 have hf : frs (C.A.under (.builtin "type.__call__" ⟨.ref (clsA b) :: vs, ks⟩)) = frs C.A := by unfold frs; rw [e]
 exact S (g := ⟨_, _, ⟨_, gn, d, t, os⟩⟩) Ao.under hk q (InvH.around e I2) rfl (.cons hx (VR.monoL X2.pre hvs)) (KR.mono X2.pre hks) fun v x g' q hv I' X' =>
  have X' : Ext C _ g' := (hf ▸ X' : ExtX [C.L] (frs C.A) _ g')
  ⟨by rw [q.1] at hv; exact hv.symm, K' _ _ g' q.2 (hx.mono X'.pre) (InvH.aroundB e I') (X2.trans X')⟩
end
theorem nsFind_empty {name : Str} {u : Value} : nsFind #[] name ≠ some u := by simp [nsFind, findBy]
noncomputable def FnsOk (B : Heap) : Prop := ∀ k f, prog.fns[k]? = some f → f.isDef = true → ∃ fd body, FnOk B k f fd body
theorem sC_step {n : Nat} {B : Heap} {w : World} {mg mb : Str → Option Value} (W : WdH B w mg mb) (F : FnsOk B) (S : ∀ m, m ≤ n → SC B w mg mb m) : SC B w mg mb (n + 1) := fun {A env fr g Q f as kw fv vs ks R} Ao hk q0 I hf hvs hks K0 => by
 refine MonE.casesOn q0 fun Q' q kR => ?_
 have K' : KE ⟨B, w, mg, mb, A, env⟩ fr g Q' fun v s => R (.ok (.ret v)) s := fun v x g' q => K0 v x g' (kR _ _ q)
 induction q with
 | fn e d q =>
  refine Eq.subst (motive := fun fv => codeAny (model pw w) A (.call fv ⟨vs, ks⟩) R g.s) hf ?_
  exact (F _ _ e d).elim fun fd z => z.elim fun body z => run_fn W z Ao S q I hvs hks K'
 | ref o e d q => exact VRef.casesOn hf fun ha => run_lam W Ao S o ha e q I hvs hks K'
 | ts q =>
  refine Eq.subst (motive := fun fv => codeAny (model pw w) A (.call fv ⟨vs, ks⟩) R g.s) hf ?_
  have w1 : WF (g.h ++ [.ns []]) := I.sim.wf.snoc (fun d e => absurd (congrArg Prod.fst e) (Nat.ne_of_beq_eq_false rfl)) (fun d e => absurd (congrArg Prod.fst e) (Nat.ne_of_beq_eq_false rfl)) trivial
  refine sC_mk (C := ⟨B, w, mg, mb, A, env⟩) (b := false) (o1 := .ns []) (o2 := .inst g.h.length) W Ao (S n (Nat.le_refl n)) hk I hvs hks K' (ONs.mk (fun e he => by simp at he) (Nat.zero_le _) (fun x v e => noS e) fun name u e => absurd e nsFind_empty) w1 (fun e => OInst.mk e) (w1.snoc (fun d e => absurd (congrArg Prod.fst e) (Nat.ne_of_beq_eq_false rfl)) (fun d e => ?_) trivial) (by rw [List.append_assoc]; exact q)
  cases (congrArg Prod.snd e : g.h.length = d)
  exact wk_at (snoc_at rfl)
 | nd q =>
  refine Eq.subst (motive := fun fv => codeAny (model pw w) A (.call fv ⟨vs, ks⟩) R g.s) hf ?_
  have w1 : WF (g.h ++ [.hid]) := I.sim.wf.snoc (fun d e => absurd (congrArg Prod.fst e) (Nat.ne_of_beq_eq_false rfl)) (fun d e => absurd (congrArg Prod.fst e) (Nat.ne_of_beq_eq_false rfl)) trivial
  refine sC_mk (C := ⟨B, w, mg, mb, A, env⟩) (b := true) (o1 := .hid) (o2 := .node g.h.length none none none) W Ao (S n (Nat.le_refl n)) hk I hvs hks K' rfl w1 (fun e => ONode.mk e fun x v e => by unfold nodeF at e; split at e <;> (try exact noS e); split at e <;> (try exact noS e); split at e <;> exact noS e) (w1.snoc (fun d e => ?_) (fun d e => absurd (congrArg Prod.fst e) (Nat.ne_of_beq_eq_false rfl)) trivial) (by rw [List.append_assoc]; exact q)
  cases (congrArg Prod.snd e : g.h.length = d)
  exact wk_at (snoc_at rfl)
theorem sC_all {B : Heap} {w : World} {mg mb : Str → Option Value} (W : WdH B w mg mb) (F : FnsOk B) (n : Nat) : ∀ m, m ≤ n → SC B w mg mb m := by
 induction n with
 | zero => intro m l; cases Nat.le_zero.mp l; exact fun _ _ q => q.elim
 | succ n ih => exact fun m l => (Nat.lt_or_eq_of_le l).elim (fun l => ih m (Nat.le_of_lt_succ l)) fun e => e ▸ sC_step W F ih
end Mine
namespace Mine
open PySem PySem.W PySem.Calls PyProof.Rows PyProof.V PySem.Spec PySem.SeqAt
section
variable {w : World} {A : Around} {E : Value → Shared → Prop} {s : Shared}
theorem bound_ok (it : Value) : checkBoundCall "list_iterator.__next__" ⟨[it], []⟩ = pure () := by kernel_rfl
theorem call_mw {m it : Addr} {o : Obj} {Q : Value → Shared → Prop} (hm : s.heap.get? m = some o) (hc : o.cls = .type "method-wrapper") (hd : o.data = .fields #[.builtin "list_iterator.__next__", .ref it])
  (q : wpAny (model pw w) (A.under (.builtin "list_iterator.__next__" ⟨[.ref it], []⟩)) (Builtin.«list_iterator.__next__» ⟨[.ref it], []⟩) (fun fin s' => match fin with | .done (.ret v) => Q v s' | _ => False) E s) :
  wpAny (model pw w) A (call (.ref m) []) Q E s := by
 refine wpAny_call (codeAny_of_tree ?_)
 show wpAny _ _ (callAny (.ref m) _) _ _ _
 unfold callAny
 refine wpAny_bind (wpAny_load hm ?_)
 rw [hd, hc]
 show wpAny _ _ (do checkBoundCall "list_iterator.__next__" ⟨[.ref it], []⟩; again (.builtin "list_iterator.__next__" ⟨[.ref it], []⟩)) _ _ _
 refine wpAny_bind (wpAny_of_eq (bound_ok _) (wpAny_pure ⟨Code.quiet_builtin _ (by decide +kernel), ?_⟩))
 refine codeAny_builtin entry_listiter_next (wpAny_mono q (fun fin s' z => ?_) fun _ _ z => z)
 cases fin with
 | done f => cases f <;> first | exact z | exact z.elim
 | again c => exact z.elim
theorem noteFrame_congr {env e0 : Env} (h : e0.frame = env.frame) (e : Value) : noteFrame e env = noteFrame e e0 := by
 unfold noteFrame PySem.frameOf
 rw [h]
theorem next_item {it l : Addr} {i : Nat} {items : Array Value} {x : Value} {Q : Fin → Shared → Prop} (hit : s.heap.IsListIter it l i) (hl : s.heap.IsList l items) (hx : items[i]? = some x)
  (hQ : ∀ h', (∃ o o', s.heap.get? it = some o ∧ h'.get? it = some o' ∧ o'.cls = o.cls ∧ o'.dict = o.dict ∧ o'.data = .fields #[.ref l, .int ((i + 1 : Nat) : Int) 0]) → Heap.SameBut it s.heap h' → Q (.done (.ret x)) { s with heap := h' }) :
  wpAny (model pw w) A (Builtin.«list_iterator.__next__» ⟨[.ref it], []⟩) Q E s := by
 obtain ⟨o, ho, hc, hd⟩ := id hit
 obtain ⟨ol, hol, _, nl, hdl⟩ := hl
 show wpAny _ _ (field (.ref it) 0 >>= _) _ _ s
 refine wpAny_bind (wpAny_field ho hd (x := .ref l) rfl ?_)
 show wpAny _ _ (if (Value.ref l == Value.none) = true then _ else _) _ _ s
 rw [if_neg (show ¬ ((Value.ref l == Value.none) = true) from Bool.false_ne_true)]
 show wpAny _ _ (field (.ref it) 1 >>= _) _ _ s
 refine wpAny_bind (wpAny_field ho hd (x := .int i 0) rfl ?_)
 show wpAny _ _ (seqItems? (.ref l) >>= _) _ _ s
 refine wpAny_bind (wpAny_seqItems hol hdl ?_)
 simp only [Int.toNat_natCast, hx]
 refine wpAny_bind (wpAny_setField ho hd (by simp) (wpAny_pure (hQ _ ?_ (Heap.SameBut.update ..))))
 refine ⟨o, _, ho, Heap.get?_update_self _ ho (Obj.isFreed_of_fields (Obj.data_mapFields hd _)), Obj.cls_mapFields .., ?_, ?_⟩
 ·obtain ⟨c, d, dt, sl⟩ := o; cases dt <;> rfl
 ·rw [Obj.data_mapFields hd]; simp [rawInt]
theorem next_end {it l : Addr} {i : Nat} {items : Array Value} {Q : Fin → Shared → Prop} (hh : A.handled = none) (hit : s.heap.IsListIter it l i) (hl : s.heap.IsList l items) (hx : items[i]? = none)
  (hE : ∀ h' (e : Addr) (oe : Obj) (vs : Array Value), (∃ o, h'.get? it = some o) → (∀ b o, b ≠ it → s.heap.get? b = some o → h'.get? b = some o) → s.heap.get? e = none → h'.get? e = some oe → oe.cls = .type "StopIteration" → oe.data = .fields vs → vs[1]? = some .none → 1 < vs.size → E (.ref e) { s with heap := h' }) :
  wpAny (model pw w) A (Builtin.«list_iterator.__next__» ⟨[.ref it], []⟩) Q E s := by
 obtain ⟨o, ho, hc, hd⟩ := id hit
 obtain ⟨ol, hol, _, nl, hdl⟩ := hl
 show wpAny _ _ (field (.ref it) 0 >>= _) _ _ s
 refine wpAny_bind (wpAny_field ho hd (x := .ref l) rfl ?_)
 show wpAny _ _ (if (Value.ref l == Value.none) = true then _ else _) _ _ s
 rw [if_neg (show ¬ ((Value.ref l == Value.none) = true) from Bool.false_ne_true)]
 show wpAny _ _ (field (.ref it) 1 >>= _) _ _ s
 refine wpAny_bind (wpAny_field ho hd (x := .int i 0) rfl ?_)
 show wpAny _ _ (seqItems? (.ref l) >>= _) _ _ s
 refine wpAny_bind (wpAny_seqItems hol hdl ?_)
 simp only [Int.toNat_natCast, hx]
 refine wpAny_bind (wpAny_rule (wpAny_bind (wpAny_setField ho hd (by simp) ?_)))
 show wpAny _ _ (newExc (.type "StopIteration") [] >>= _) _ _ _
 refine wpAny_bind ?_
 simp only [newExc, newTuple]
 refine wpAny_bind (wpAny_newObj_type ?_ (by size_fits))
 refine wpAny_bind (m := firstArgMember _ _) (wpAny_of_eq (a := Value.none) (by first | rfl | (simp only [firstArgMember]; rfl)) ?_)
 refine wpAny_newObj_type ?_ (by size_fits)
 simp only [raiseNew]
 refine wpAny_bind (wpAny_handled ?_)
 rw [hh]
 refine wpAny_bind (wpAny_pure (wpAny_throw ?_))
 have hup : ∃ o', (s.heap.update it (Obj.mapFields (·.setIfInBounds 0 Value.none))).get? it = some o' := ⟨_, Heap.get?_update_self _ ho (Obj.isFreed_of_fields (Obj.data_mapFields hd _))⟩
 refine hE _ _ _ _ ?_ (fun b o' hb e => Heap.get?_push_of_some _ (Heap.get?_push_of_some _ ((Heap.get?_update_other _ _ (Ne.symm hb)).trans e))) ?_ (Heap.get?_push_size _ rfl) rfl rfl ?_ ?_
 ·obtain ⟨o', e'⟩ := hup; exact ⟨o', Heap.get?_push_of_some _ (Heap.get?_push_of_some _ e')⟩
 ·cases z : s.heap.get? (((s.heap.update it (Obj.mapFields (·.setIfInBounds 0 Value.none))).push { cls := .type "tuple", data := .seq ([] : List Value).toArray }).objs.size) with
  | none => rfl
  | some o2 =>
   exfalso
   have h1 := Heap.lt_size z
   rw [Heap.size_push, Heap.size_update] at h1
   exact absurd h1 (Nat.not_lt.mpr (Nat.le_succ _))
 ·rfl
 ·simp; lia
end
end Mine
namespace Mine
open PySem PySem.W PySem.Calls PyProof.Rows PyProof.V PySem.Spec PySem.SeqAt
theorem frames_hide {B s : Heap} {e : Addr} {F : List Addr} {l : List Env} : s.FunFrames B l → (∀ x ∈ l.filterMap (·.frame), x ∈ F) → s.FunFrames (hideAll s (e :: F)) l := by
 induction l with
 | nil => exact fun _ _ => trivial
 | cons en rest ih => exact fun hl hF => ⟨hl.1, hl.2.1.elim fun L z => z.elim fun oL z => ⟨L, oL, z.1, hideAll_none _ (.tail _ (hF L (by rw [List.filterMap_cons, z.1]; exact .head _))), z.2.2⟩,
   ih hl.2.2 fun x hx => hF x (hl.2.1.elim fun L z => z.elim fun oL z => by rw [List.filterMap_cons, z.1]; exact .tail _ hx)⟩
section
variable {n : Nat} {C : Cx} {sc : Scope} {fr : Fm} {g : Sg} {s : Heap} {α : List Addr} {h : Hp}
structure TurnF (C : Cx) (a : Addr) (s s' : Heap) : Prop where
 keep : ∀ b o, b ≠ a → b ∉ frs C.A → s.get? b = some o → s'.get? b = some o
 keepF : ∀ b o, b ≠ a → b ∈ frs C.A → s.get? b = some o → ∃ sl, s'.get? b = some { o with slots := sl }
 live : ∃ o, s'.get? a = some o
theorem mem_frs {l : List Env} {x : Addr} (hA : C.A.frames = some l) (hx : x ∈ l.filterMap (·.frame)) : x ∈ frs C.A := by unfold frs; rw [hA]; exact hx
theorem noted_snd {e : Addr} {oe : Obj} {vs : Array Value} {a0 : Value} {K : Unit → Shared → Prop} {s : Shared} (I : InvH C fr α h s.heap) (he : s.heap.get? e = some oe) (hd : oe.data = .fields vs) (h1 : vs[1]? = some .none) (h0 : vs[0]? = some a0)
  (q : ∀ h' L l, C.A.frames = some l → TurnF C e s.heap h' → h'.FunFrames (hideAll s.heap (e :: frs C.A)) l → (hideAll s.heap (e :: frs C.A)).StaysIn h' → h'.TracedAtW (hideAll s.heap (e :: frs C.A)) e oe.cls a0 (rawInt L) → K () { s with heap := h' }) :
  C.wp (noteFrame (.ref e) C.env) K s := by
 obtain ⟨e0, outer, hA, hfe⟩ := I.hd
 refine Frs.casesOn I.FF fun {l} hA' hl => ?_
 rw [hA] at hA'; cases hA'
 have hlb : s.heap.FunFrames (hideAll s.heap (e :: frs C.A)) (e0 :: outer) := frames_hide hl fun x hx => mem_frs hA hx
 obtain ⟨_, ⟨L, oL, hfL, _⟩, _⟩ := hl
 rw [noteFrame_congr hfe]
 unfold Cx.wp noteFrame
 simp only [hfL]
 refine wpAny_bind (wpAny_field he hd h1 ?_)
 rw [if_neg (show ¬ ((Value.none != Value.none) = true) from by simp)]
 have hsz : 1 < vs.size := (Array.getElem?_eq_some_iff.mp h1).1
 refine wpAny_mono (wpAny_entryW (Q := fun _ s' => K () s') hA hlb hfL he (fun b o e' => of_hideAll _ e') (hideAll_none _ (.head _)) hd hsz h0 fun h' hN => ?_) (fun _ _ z => z) fun _ _ z => z
 exact q h' L (e0 :: outer) hA ⟨fun b o hb hF hbo => hN.1 b o (hideAll_get _ hbo (fun z => (List.mem_cons.mp z).elim hb hF)), fun b o hb hF hbo => hN.2.2.2 b o hbo fun vs' hv => (I.FF.mem hF).2.elim fun o' z => by cases hbo.symm.trans z.1; exact z.2 vs' hv, by
  obtain ⟨oe', _, _, _, _, he', _⟩ := hN.2.2.1; exact ⟨oe', he'⟩⟩ hN.2.1 hN.1 hN.2.2.1
theorem TurnF.flight {e : Addr} {h' h'' : Heap} (I : InvH C fr α h s) (N : TurnF C e s h') (st : (hideAll s (e :: frs C.A)).StaysIn h'') (kp : ∀ b o, h'.get? b = some o → (∀ vs, o.data ≠ .fields vs) → h''.get? b = some o) (lv : ∃ o, h''.get? e = some o) : TurnF C e s h'' where
 keep b o hb hF e := st b o (hideAll_get _ e (fun z => (List.mem_cons.mp z).elim hb hF))
 keepF b o hb hF e := (N.keepF b o hb hF e).elim fun sl e1 => ⟨sl, kp b _ e1 fun vs z => (I.FF.mem hF).2.elim fun o' y => y.2 vs (by cases e.symm.trans y.1; exact z)⟩
 live := lv
theorem TurnF.inv {k : Nat} {o : AObj} {a : Addr} {s' : Heap} (t : TurnF C a s s') (I : InvH C fr α h s) (ho : h[k]? = some o) (ha : α[k]? = some a) (hro : ∀ xs, o ≠ .ro xs) (ew : wk o = (0, 0)) : InvH C fr α (h.set k .junk) s' :=
 t.live.elim fun c hc => I.turnF (frs C.A) (fun b hb => ⟨hb, (I.FF.mem hb).2.elim fun o z => (t.keepF b o (fun q => (I.FN b hb).1 (q ▸ List.mem_of_getElem? ha)) hb z.1).elim fun sl q => ⟨_, q, z.2⟩⟩) ho ha hro ew.symm trivial (fun b x n _ nF e => t.keep b x n nF e)
  (I.ns.keep (List.prefix_refl _) fun o e _ => Classical.byCases (fun z : C.L ∈ frs C.A => (t.keepF _ o (fun q : C.L = a => I.locN (q ▸ List.mem_of_getElem? ha)) z e).elim fun sl q => ⟨_, q, rfl⟩) fun z => ⟨o, t.keep _ o (fun q : C.L = a => I.locN (q ▸ List.mem_of_getElem? ha)) z e, rfl⟩) hc trivial
theorem TurnF.ext {a : Addr} {s' : Shared} {h' : Hp} (t : TurnF C a g.s.heap s'.heap) (ha : a ∈ g.α) (eg : s'.gens = g.s.gens := by rfl) (eo : s'.os = g.s.os := by rfl) : Ext C g ⟨g.α, h', s'⟩ :=
 ⟨List.prefix_refl _, fun _ h => .inl h, fun b o e => Classical.byCases (fun z : b = a => t.live.elim fun o' q => ⟨o', z ▸ q, fun n _ _ => absurd (z ▸ ha) n⟩) fun z => Classical.byCases (fun y : b ∈ frs C.A => (t.keepF b o z y e).elim fun sl q => ⟨_, q, fun _ _ _ => ⟨fun n => absurd y n, sl, rfl⟩⟩) fun y => ⟨o, t.keep b o z y e, fun _ _ _ => ⟨fun _ => rfl, o.slots, rfl⟩⟩, eg, eo⟩
end
end Mine
namespace Mine
open PySem PySem.W PySem.Calls PyProof.Rows PyProof.V PySem.Spec PySem.SeqAt
section
variable {n : Nat} {C : Cx} {sc : Scope} {fr : Fm} {g : Sg}
theorem pop_snd {id : Str} {p apos pos : Pos} {x k : Nat} {xs : List AV} {v : AV} {Q : AV → Hp → Prop} {K : Value → Shared → Prop} (W : WdH C.B C.w C.mg C.mb) (E : EnvH C.B C.env sc) (hl : IsLoc sc id x) (hline : apos.endLine = pos.line) (hx : fr.loc x = some (.ref k)) (hk : g.h[k]? = some (.list xs))
  (hlen : xs.length ≤ 100000) (hv : xs.getLast? = some v) (q : Q v (g.h.set k (.list xs.dropLast))) (I : Inv C fr g) (kk : KE C fr g Q K) : C.wp (eval (.Call (.Attribute (.Name id p) (nm 2) apos) [] [] pos) C.env) K g.s := by
 rw [eval_meth0]
 refine wpAny_bind (wpAny_Name (load_loc (Q' := fun v => v = .ref k) E hl ⟨_, hx, rfl⟩ I fun w u hw hu => wpAny_bind (wpAny_standAt ?_)) hl.3)
 subst hw
 refine VRef.casesOn hu fun {a} ha => listAt I hk ha fun vs m ho _ _ _ => ?_
 unfold methodCall
 rw [show methodCallForm 0 [] [] = true from rfl]
 refine wpAny_bind (wpAny_holding ?_)
 show C.wp (getMethod (.ref a) (nm 2) _) _ _
 refine getList (by decide) ho ?_
 dsimp only
 rw [callPos hline]
 refine wpAny_bind (wpAny_pure (callWith_of (P := fun _ => True) rfl (fun h' _ => ⟨.machine, .inr (.inl rfl), Looks.now⟩) ?_))
 refine wpAny_of_eq (a := ⟨[], []⟩) rfl ⟨trivial, ?_⟩
 exact bmeth_snd (m := 2) (as := []) W (.pop hk hlen hv q) ha .nil I kk
theorem set_ne {h : Hp} {k j : Nat} {o o' : AObj} (e : k ≠ j) (z : h[j]? = some o') : (h.set k o)[j]? = some o' := by rw [List.getElem?_set, if_neg e]; exact z
theorem handler_snd {id is ii : Str} {p9 p10 p11 p12 p13 p14 p15 p16 p17 p18 : Pos} {its d st ki kd ks ver : Nat} {ss xs : List AV} {es : List (Int × AV)} {j : Int} {m : AV} {Q : AFlow → Fm → Hp → Prop} {K : Flow → Shared → Prop} (W : WdH C.B C.w C.mg C.mb) (E : EnvH C.B C.env sc) (hi : IsLoc sc ii its) (hd : IsLoc sc id d) (hs : IsLoc sc is st)
  (l1 : p11.endLine = p12.line) (l2 : p16.endLine = p17.line) (fi : fr.loc its = some (.ref ki)) (fd : fr.loc d = some (.ref kd)) (fs : fr.loc st = some (.ref ks))
  (e1 : g.h[ki]? = some (.list xs)) (e2 : xs.getLast? = some m) (e3 : g.h[ks]? = some (.list ss)) (e4 : g.h[kd]? = some (.dict es ver)) (z1 : xs.length ≤ 100000) (z2 : ss.length ≤ 100000) (z3 : es.length ≤ 100000)
  (e5 : ss.getLast? = some (.int j)) (e6 : j ∈ es.map (·.1)) (n1 : ki ≠ ks) (n2 : ki ≠ kd) (n3 : ks ≠ kd)
  (q : ∀ n', Q .next fr (((g.h.set ks (.list ss.dropLast)).set kd (.dict (ddel es j) n')).set ki (.list xs.dropLast))) (I : Inv C fr g) (k : KX C g Q K) :
  C.wp (execs [.Delete [.Subscript (.Name id p9) (.Call (.Attribute (.Name is p10) (nm 2) p11) [] [] p12) p13] p14, .Expr (.Call (.Attribute (.Name ii p15) (nm 2) p16) [] [] p17) p18] C.env) K g.s := by
 refine wpAny_execs_cons (wpAny_Delete ?_)
 show wpAny C.M C.A (do (do
   let ov ← eval (.Name id p9) C.env
   let iv ← holding [ov] (eval (.Call (.Attribute (.Name is p10) (nm 2) p11) [] [] p12) C.env)
   standAt p13
   holding [ov, iv] (delItem ov iv)
   release [ov, iv] []); deleteEach [] C.env) _ _ _
 refine wpAny_bind (wpAny_bind (wpAny_Name (load_loc (Q' := fun v => v = .ref kd) E hd ⟨_, fd, rfl⟩ I fun w u hw hu => ?_) hd.3))
 subst hw
 refine wpAny_bind (wpAny_holding (pop_snd (Q := fun v h' => v = .int j ∧ h' = g.h.set ks (.list ss.dropLast)) W E hs l1 fs e3 z2 e5 ⟨rfl, rfl⟩ I fun iv y g₂ z hy I₂ X₂ => ?_))
 obtain ⟨rfl, z⟩ := z
 refine wpAny_bind (wpAny_standAt (wpAny_bind (wpAny_holding (delItem_snd (Q := fun h' => ∃ n', h' = (g.h.set ks (.list ss.dropLast)).set kd (.dict (ddel es j) n')) (K := fun s => _) (.dict (z ▸ set_ne n3 e4) z3 e6 fun n' => ⟨n', by rw [z]⟩) (hu.mono X₂.pre) hy I₂ fun g₃ z₃ I₃ X₃ => wpAny_release' (wpAny_pure ?_)))))
 refine z₃.elim fun n' z₃ => wpAny_execs_cons (wpAny_Expr_any (pop_snd (Q := fun v h' => h' = ((g.h.set ks (.list ss.dropLast)).set kd (.dict (ddel es j) n')).set ki (.list xs.dropLast)) W E hi l2 fi (z₃ ▸ set_ne n2.symm (set_ne n1.symm e1)) z1 e2 (by rw [z₃]) I₃ fun v y g₄ z₄ hy I₄ X₄ => ?_) (inter_no E) rfl)
 exact wpAny_execs_nil (k .next .next fr g₄ (z₄ ▸ q n') rfl I₄ (X₂.trans (X₃.trans X₄)))
end
end Mine
namespace Mine
open PySem PySem.W PySem.Calls PyProof.Rows PyProof.V PySem.Spec PySem.SeqAt
theorem keeper_mw {M : Model} {h : Heap} {m : Addr} {o : Obj} {vs : Array Value} (hm : h.get? m = some o) (hc : o.cls = .type "method-wrapper") (hd : o.data = .fields vs) : Looks M h (keeperOf (.ref m)) .machine := by
 intro A Q E s hk q
 unfold keeperOf
 refine wpAny_bind (wpAny_load (hk _ _ hm) ?_)
 rw [hd, hc]
 exact wpAny_pure q
section
variable {n : Nat} {C : Cx} {sc : Scope} {fr : Fm} {g : Sg}
theorem last_get {xs : List AV} {v : AV} (e : xs.getLast? = some v) : -(xs.length : Int) ≤ -1 ∧ xs[((-1 : Int) + xs.length).toNat]? = some v := by
 have hl : 0 < xs.length := List.length_pos_iff.mpr fun z => by rw [z] at e; exact noS e
 refine ⟨by lia, ?_⟩
 rw [List.getLast?_eq_getElem?] at e
 rw [show ((-1 : Int) + xs.length).toNat = xs.length - 1 by lia]
 exact e
theorem itcall_snd {ii : Str} {k : Nat} {p1 p2 p3 p4 p5 : Pos} {its ki m it lk i : Nat} {xs ys : List AV} {Q : Value → Shared → Prop} {Ex : Value → Shared → Prop} (hh : C.A.handled = none) (E : EnvH C.B C.env sc) (hi : IsLoc sc ii its)
  (fi : fr.loc its = some (.ref ki)) (e1 : g.h[ki]? = some (.list xs)) (e2 : xs.getLast? = some (.ref m)) (e3 : g.h[m]? = some (.meth it)) (e4 : g.h[it]? = some (.iter lk i)) (e5 : g.h[lk]? = some (.list ys)) (I : Inv C fr g)
  (q1 : ∀ v u g₁, ys[i]? = some v → g₁.h = g.h.set it (.iter lk (i + 1)) → VR g₁.α v u → Inv C fr g₁ → Ext C g g₁ → Q u g₁.s)
  (q2 : ∀ g₁ hp (e ia : Addr) (oe : Obj) (vs : Array Value), ys[i]? = none → g₁.h = g.h → Inv C fr g₁ → Ext C g g₁ → g₁.α[it]? = some ia → (∃ o, hp.get? ia = some o) → (∀ b o, b ≠ ia → g₁.s.heap.get? b = some o → hp.get? b = some o) → g₁.s.heap.get? e = none →
   hp.get? e = some oe → oe.cls = .type "StopIteration" → oe.data = .fields vs → vs[1]? = some .none → 1 < vs.size → Ex (.ref e) { g₁.s with heap := hp }) :
  wpAny C.M C.A (eval (.Call (.Subscript (.Name ii p1) (.UnaryOp .USub (.Constant (.int 1) k p2) p3) p4) [] [] p5) C.env) Q Ex g.s := by
 show wpAny C.M C.A (do callWith p5 (← eval (.Subscript (.Name ii p1) (.UnaryOp .USub (.Constant (.int 1) k p2) p3) p4) C.env) [] (backTo p5 (starEach [] C.env)) (backToKw p5 (keywordEach [] C.env))) Q Ex g.s
 refine wpAny_bind (Cx.wp.E (Subscript_ (wpAny_Name (load_loc (Q' := fun v => v = .ref ki) E hi ⟨_, fi, rfl⟩ I fun w u hw hu => ?_) hi.3)))
 subst hw
 refine wpAny_UnaryOp (wpAny_Constant_int (PyProof.Rows.neg_int ?_))
 have lg := last_get e2
 refine idx_snd (g := ⟨g.α, g.h, { g.s with toks := g.s.toks + 1 + 1 }⟩) (Q := fun v h' => v = .ref m ∧ h' = g.h) (fun _ _ => rfl) (.neg e1 (by decide) lg.1 lg.2 ⟨rfl, rfl⟩) hu vint (I.to rfl) fun fv x g₁ z hv I₁ X => ?_
 obtain ⟨rfl, z⟩ := z
 have X₁ : Ext C g g₁ := ExtX.trans ExtX.same X
 rw [← z] at e3 e4 e5
 refine VRef.casesOn hv fun {ma} hma => obAt I₁ e3 hma fun om hom rm => OMeth.casesOn rm fun {ia} hia hcm hdm => obAt I₁ e4 hia fun oi hoi ri => OIter.casesOn ri fun {la} hla hci hdi0 hdi => listAt I₁ e5 hla fun vs mm hl hr _ _ => ?_
 refine callWith_of (P := fun h => h = g₁.s.heap) rfl (fun h' hh' => ⟨.machine, .inr (.inl rfl), hh' ▸ keeper_mw hom hcm hdm⟩) ?_
 refine wpAny_of_eq (a := (⟨[], []⟩ : Args)) rfl ⟨rfl, ?_⟩
 refine call_mw hom hcm hdm ?_
 have hit : g₁.s.heap.IsListIter ia la i := ⟨oi, hoi, hci, hdi⟩
 have hm := hr.nth i
 rw [Array.getElem?_toList (xs := vs)] at hm
 cases hy : ys[i]? with
 | some v =>
  rw [hy] at hm
  refine One.casesOn hm.sm fun u hu1 hu2 => next_item hit (isList_of hl) hu1 fun h' hx hs => ?_
  obtain ⟨o, o', ho, ho', hc', hd0', hd'⟩ := hx
  cases hoi.symm.trans ho
  exact I₁.turnS (s' := { g₁.s with heap := h' }) (o' := .iter lk (i + 1)) e4 hia nofun rfl trivial hs ho' ⟨hla, hc'.trans hci, hd0'.trans hdi0, hd'⟩ fun I₂ X₂ => q1 v u ⟨g₁.α, g₁.h.set it (.iter lk (i + 1)), { g₁.s with heap := h' }⟩ hy (congrArg (fun h => List.set h it (AObj.iter lk (i + 1))) z) hu2 I₂ (X₁.trans X₂)
 | none =>
  rw [hy] at hm
  exact next_end hh hit (isList_of hl) (hm.none_left rfl) fun h' e oe vs' g1 g2 g3 g4 g5 g6 g7 g8 => q2 g₁ h' e ia oe vs' hy z I₁ X₁ hia g1 g2 g3 g4 g5 g6 g7 g8
end
end Mine
namespace Mine
open PySem PySem.W PySem.Calls PyProof.Rows PyProof.V PySem.Spec PySem.SeqAt
theorem stop_exc : isSubtype (.type "StopIteration") (.type "BaseException") = pure true := isSubtype_of_subB (by decide +kernel)
theorem stop_nt : isSubtype (.type ((Manifest.find? "StopIteration").elim "type" fun x => x.metatype)) (.type "tuple") = pure false := isSubtype_of_subB (by decide +kernel)
theorem stop_sub : isSubtype (.type "StopIteration") (.type "StopIteration") = pure true := isSubtype_of_subB (by decide +kernel)
section
variable {n : Nat} {C : Cx} {sc : Scope} {fr : Fm} {g : Sg}
theorem sTry {ix ii id is ig : Str} {k : Nat} {px p1 p2 p3 p4 p5 p6 p7 p8 p9 p10 p11 p12 p13 p14 p15 p16 p17 p18 p19 p20 : Pos} {x its d st : Nat} (hx : IsLoc sc ix x) (hi : IsLoc sc ii its) (hd : IsLoc sc id d) (hs : IsLoc sc is st) (hg : IsGlo sc ig (.ty "StopIteration")) (l1 : p11.endLine = p12.line) (l2 : p16.endLine = p17.line) :
  OkSt sc (.Try [.Assign [.Name ix px] (.Call (.Subscript (.Name ii p1) (.UnaryOp .USub (.Constant (.int 1) k p2) p3) p4) [] [] p5) p6, .Break p7]
    [.ExceptHandler (some (.Name ig p8)) none [.Delete [.Subscript (.Name id p9) (.Call (.Attribute (.Name is p10) (nm 2) p11) [] [] p12) p13] p14, .Expr (.Call (.Attribute (.Name ii p15) (nm 2) p16) [] [] p17) p18] p19] [] [] p20) (.tryNext x its d st) := fun {n C fr g Q K} G q I kk =>
 TryG.casesOn q fun ki kd ks xs it lk i ys ss es ver m fi fd fs e1 e2 e3 e4 e5 e6 e7 z1 z2 z3 q qn => by
  refine wpAny_Try_except (wpAny_execs_cons (wpAny_Assign_stores ?_ rfl rfl))
  refine itcall_snd G.A.handled G.E hi fi e1 e2 e3 e4 e5 I (fun v u g₁ hy eh hv I₁ X₁ => ?_) fun g₁ hp e ia oe vs hy eh I₁ X₁ hia g1 g2 g3 g4 g5 g6 g7 g8 => ?_
  ·exact Cx.wp.E (wpAny_assign_Name (setLoc_snd (Q := fun fr h => Q .brk fr h) G hx (eh ▸ q v hy) hv I₁ fun fr₂ g₂ q I₂ X₂ => wpAny_execs_cons (wpAny_Break (kk .brk .brk fr₂ g₂ q rfl I₂ (X₁.trans X₂)))))
  ·refine TryN.casesOn (qn hy) fun j e8 e9 n1 n2 n3 qn => ?_
   have e4' := e4
   rw [← eh] at e1 e4 e6 e7 qn
   have hm : ia ∈ g₁.α := List.mem_of_getElem? hia
   have T0 : TurnF C ia g₁.s.heap hp := ⟨fun b o n _ e => g2 b o n e, fun b o n _ e => ⟨o.slots, g2 b o n e⟩, g1⟩
   have I₂ := T0.inv I₁ e4 hia nofun rfl
   have heia : ia ≠ e := fun z => (InvH.liveM I₁ hm).elim fun o y => some_ne y (z ▸ g3)
   have tf : ∀ h', TurnF C e hp h' → TurnF C ia g₁.s.heap h' := fun h' N =>
    have ne : ∀ b o, g₁.s.heap.get? b = some o → b ≠ e := fun b o y z => some_ne y (z ▸ g3)
    ⟨fun b o hb hF e' => N.keep b o (ne b o e') hF (g2 b o hb e'), fun b o hb hF e' => N.keepF b o (ne b o e') hF (g2 b o hb e'), g1.elim fun o y => ⟨o, N.keep ia o heia (fun z => (I₁.FN _ z).1 hm) y⟩⟩
   refine noted_snd (s := { g₁.s with heap := hp }) I₂ g4 g6 g7 (Array.getElem?_eq_getElem (Nat.lt_of_succ_lt g8)) fun h3 L l hA N3 FF3 st3 T3 => ?_
   refine wpAny_setFlight_noneW st3 FF3 T3 fun h4 st4 FF4 T4 k4 => ?_
   have N4 := N3.flight I₂ st4 k4 (by obtain ⟨oe', _, _, _, _, he', _⟩ := T4; exact ⟨oe', he'⟩)
   refine wpAny_handleBy_builtin (X := "StopIteration") (T := "StopIteration") (b := true) stop_exc stop_nt stop_sub ?_
   have I₄ : InvH (C.out (C.A.mark (some (.ref e)))) fr g₁.α (g₁.h.set it .junk) h4 := InvH.around rfl ((tf h4 N4).inv I₁ e4 hia nofun rfl)
   refine Cx.wp.E (C := C.out (C.A.mark (some (.ref e)))) (wpAny_Name (load_glo (C := C.out (C.A.mark (some (.ref e)))) (g := ⟨g₁.α, g₁.h.set it .junk, { g₁.s with heap := h4 }⟩) G.W G.E hg I₄ fun u hu => ?_) hg.2)
   obtain rfl := hu
   obtain ⟨oe4, hoe4, hcls4⟩ := T4.at.there
   refine ⟨rfl, ⟨oe4, hoe4, hcls4.trans g5⟩, ?_⟩
   rw [if_pos rfl]
   refine wpAny_setFlight_noneW (s := { g₁.s with heap := h4 }) st4 FF4 T4.at fun h5 st5 FF5 T5 k5 => ?_
   have N5 := N4.flight I₂ st5 k5 (by obtain ⟨oe', _, _, _, _, he', _⟩ := T5; exact ⟨oe', he'⟩)
   have I₅ : InvH (C.out (C.A.mark (some (.ref e)))) fr g₁.α (g₁.h.set it .junk) h5 := InvH.around rfl ((tf h5 N5).inv I₁ e4 hia nofun rfl)
   have X₅ : Ext C g₁ ⟨g₁.α, g₁.h.set it .junk, { g₁.s with heap := h5 }⟩ := (tf h5 N5).ext hm
   have ne : ∀ {k : Nat} {o : AObj}, g₁.h[k]? = some o → wk o = (0, 0) → (∀ a b, o ≠ AObj.iter a b) → (g₁.h.set it .junk)[k]? = some o := fun {k o} hk _ ho => set_ne (fun z => by subst z; rw [e4] at hk; cases hk; exact ho _ _ rfl) hk
   exact Cx.wp.E (C := C.out (C.A.mark (some (.ref e)))) (handler_snd (C := C.out (C.A.mark (some (.ref e)))) (Q := Q) (K := fun f s => K f s) (g := ⟨g₁.α, g₁.h.set it .junk, { g₁.s with heap := h5 }⟩) G.W G.E hi hd hs l1 l2 fi fd fs (ne e1 rfl nofun) e2 (ne e6 rfl nofun) (ne e7 rfl nofun) z1 z2 z3 e8 e9 n1 n2 n3 qn I₅
    fun f fl fr6 g6 q hf I6 X6 => kk f fl fr6 g6 q hf (InvH.aroundB (C := C) (A := C.A.mark (some (.ref e))) rfl I6) (X₁.trans (X₅.trans X6)))
end
end Mine
namespace Mine
open PySem PyProof.Rows
structure GP (a₀ : Array Keyed) (xs : Array Keyed) (π : Nat → Nat) : Prop where
 sz : xs.size = a₀.size
 lt : ∀ i, i < a₀.size → π i < a₀.size
 arr : ∀ i, i < a₀.size → xs[i]? = a₀[π i]?
noncomputable def StTo (a₀ : Array Keyed) (π : Nat → Nat) (k : Nat) : Prop := ∀ i j, i < j → j < k → K a₀ (π i) < K a₀ (π j) ∨ (K a₀ (π i) = K a₀ (π j) ∧ π i < π j)
noncomputable def DeTo (a₀ : Array Keyed) (π : Nat → Nat) (k : Nat) : Prop := ∀ i j, i < j → j < k → K a₀ (π j) < K a₀ (π i) ∨ (K a₀ (π i) = K a₀ (π j) ∧ π j < π i)
structure Suf (a₀ : Array Keyed) (π : Nat → Nat) (k : Nat) : Prop where
 id : ∀ i, k ≤ i → i < a₀.size → π i = i
 bel : ∀ i, i < k → π i < k
noncomputable def bub (π : Nat → Nat) (src l : Nat) (k : Nat) : Nat := if k = l then π src else if l < k ∧ k ≤ src then π (k - 1) else π k
noncomputable def mir (π : Nat → Nat) (i j : Nat) (k : Nat) : Nat := if i ≤ k ∧ k < j then π (i + j - 1 - k) else π k
section
variable {a₀ xs : Array Keyed} {π : Nat → Nat}
theorem GP.key (g : GP a₀ xs π) {i : Nat} (hi : i < a₀.size) : K xs i = K a₀ (π i) := K_congr (g.arr i hi)
theorem GP.bub (g : GP a₀ xs π) {src l : Nat} (hs : src < a₀.size) (hl : l ≤ src) : GP a₀ (bubble xs src (src - l)) (bub π src l) := by
 refine ⟨by rw [bubble_size]; exact g.sz, fun i hi => ?_, fun i hi => ?_⟩
 ·unfold Mine.bub
  split
  ·exact g.lt _ hs
  ·split
   ·exact g.lt _ (Nat.sub_lt_of_lt hi)
   ·exact g.lt _ hi
 ·rw [getElem?_bubble (by rw [g.sz]; exact hs) _ (Nat.sub_le _ _), Nat.sub_sub_self hl]
  unfold Mine.bub
  split
  ·exact g.arr _ hs
  ·split
   ·exact g.arr _ (Nat.sub_lt_of_lt hi)
   ·exact g.arr _ hi
theorem mir_lt {i j k n : Nat} (h : i ≤ k ∧ k < j) (l : j ≤ n) : i + j - 1 - k < n := by lia
theorem GP.mir (g : GP a₀ xs π) {i j : Nat} (hj : j ≤ a₀.size) : GP a₀ (mirror xs i j ((j - i) / 2)) (mir π i j) := by
 refine ⟨by rw [mirror_size]; exact g.sz, fun k hk => ?_, fun k hk => ?_⟩
 ·unfold Mine.mir
  split
  ·next h => exact g.lt _ (mir_lt h hj)
  ·exact g.lt _ hk
 ·rw [getElem?_mirror_all (by rw [g.sz]; exact hj)]
  unfold Mine.mir
  split
  ·next h => exact g.arr _ (mir_lt h hj)
  ·exact g.arr _ hk
theorem Suf.bub {src l k : Nat} (s : Suf a₀ π k) (h : src < k) (hl : l ≤ src) : Suf a₀ (Mine.bub π src l) k := by
 refine ⟨fun i hi hn => ?_, fun i hi => ?_⟩ <;> unfold Mine.bub
 ·have z := Nat.lt_of_lt_of_le h hi
  rw [if_neg (Nat.ne_of_gt (Nat.lt_of_le_of_lt hl z)), if_neg fun q => Nat.not_le_of_lt z q.2]
  exact s.id i hi hn
 ·split
  ·exact s.bel _ h
  ·split
   ·exact s.bel _ (Nat.sub_lt_of_lt hi)
   ·exact s.bel _ hi
theorem Suf.mir {i j k : Nat} (s : Suf a₀ π k) (h : j ≤ k) : Suf a₀ (Mine.mir π i j) k := by
 refine ⟨fun m hm hn => ?_, fun m hm => ?_⟩ <;> unfold Mine.mir
 ·rw [if_neg fun q => Nat.not_le_of_lt q.2 (Nat.le_trans h hm)]
  exact s.id m hm hn
 ·split
  ·next q => exact s.bel _ (mir_lt q h)
  ·exact s.bel _ hm
theorem Suf.mono {k m : Nat} (s : Suf a₀ π k) (h : k ≤ m) (hm : m ≤ a₀.size) : Suf a₀ π m := ⟨fun i hi hn => s.id i (Nat.le_trans h hi) hn, fun i hi => (Nat.lt_or_ge i k).elim (fun z => Nat.lt_of_lt_of_le (s.bel i z) h) fun z => (s.id i z (Nat.lt_of_lt_of_le hi hm)).symm ▸ hi⟩
theorem GP.asc (g : GP a₀ xs π) {a n : Nat} (ha : a ≤ n) (hn : n ≤ a₀.size) (st : StTo a₀ π a) (su : Suf a₀ π a) (so : SortedTo xs n) : StTo a₀ π n := fun i j hij hj => by
 have hj' := Nat.lt_of_lt_of_le hj hn
 rcases Nat.lt_or_ge j a with h | h
 ·exact st i j hij h
 ·have h1 := so i j (Nat.le_of_lt hij) hj
  rw [g.key (Nat.lt_trans hij hj'), g.key hj'] at h1
  rcases Int.lt_or_eq_of_le h1 with h2 | h2
  ·exact .inl h2
  ·refine .inr ⟨h2, ?_⟩
   rw [su.id j h hj']
   rcases Nat.lt_or_ge i a with h3 | h3
   ·exact Nat.lt_of_lt_of_le (su.bel i h3) h
   ·rw [su.id i h3 (Nat.lt_trans hij hj')]; exact hij
theorem DeTo.rev {n : Nat} (d : DeTo a₀ π n) : StTo a₀ (Mine.mir π 0 n) n := fun i j hij hj => by
 unfold Mine.mir
 rw [if_pos (by lia), if_pos (by exact ⟨Nat.zero_le j, hj⟩)]
 rcases d (0 + n - 1 - j) (0 + n - 1 - i) (by lia) (by lia) with h | ⟨h1, h2⟩
 ·exact .inl h
 ·exact .inr ⟨h1.symm, h2⟩
theorem bub_lt {src l k : Nat} (h : k < l) : Mine.bub π src l k = π k := by unfold Mine.bub; rw [if_neg (Nat.ne_of_lt h), if_neg fun q => Nat.lt_asymm h q.1]
theorem bub_eq {src l : Nat} : Mine.bub π src l l = π src := if_pos rfl
theorem bub_gt {src l k : Nat} (h : l < k) (h' : k ≤ src) : Mine.bub π src l k = π (k - 1) := by unfold Mine.bub; rw [if_neg (Nat.ne_of_gt h), if_pos ⟨h, h'⟩]
theorem pr_lt {l j k : Nat} (h : l < j) (h' : j ≤ k) : j - 1 < k := by lia
theorem StTo.bub {k l : Nat} (hs : StTo a₀ π k) (su : Suf a₀ π k) (hk : k < a₀.size) (lk : l ≤ k) (lo : ∀ i, i < l → K a₀ (π i) ≤ K a₀ (π k)) (hi : ∀ i, l ≤ i → i < k → K a₀ (π k) < K a₀ (π i)) : StTo a₀ (Mine.bub π k l) (k + 1) := fun i j hij hj => by
 have hj := Nat.le_of_lt_succ hj
 rcases Nat.lt_trichotomy i l with a | a | a
 ·rw [bub_lt a]
  rcases Nat.lt_trichotomy j l with b | b | b
  ·rw [bub_lt b]; exact hs i j hij (Nat.lt_of_lt_of_le b lk)
  ·subst b
   rw [bub_eq]
   exact (Int.lt_or_eq_of_le (lo i a)).imp id fun z => ⟨z, (su.id k (Nat.le_refl _) hk).symm ▸ su.bel i (Nat.lt_of_lt_of_le a lk)⟩
  ·rw [bub_gt b hj]; exact hs i (j - 1) (Nat.lt_of_lt_of_le a (Nat.le_sub_one_of_lt b)) (pr_lt b hj)
 ·subst a
  rw [bub_eq, bub_gt hij hj]
  exact .inl (hi _ (Nat.le_sub_one_of_lt hij) (pr_lt hij hj))
 ·have b := Nat.lt_trans a hij
  rw [bub_gt a (Nat.le_trans (Nat.le_of_lt hij) hj), bub_gt b hj]
  exact hs _ _ (Nat.lt_of_lt_of_le (Nat.sub_lt (Nat.zero_lt_of_lt a) Nat.one_pos) (Nat.le_sub_one_of_lt hij)) (pr_lt b hj)
end
end Mine
namespace Mine
open PySem PyProof.Rows
section
variable {prog : Program} {w : World} {A : Around} {E : Value → Shared → Prop} {s : Shared} {a₀ : Array Keyed} {π : Nat → Nat}
noncomputable abbrev G (a₀ : Array Keyed) (st : SortSt) (π : Nat → Nat) : Prop := GP a₀ (arrOf st) π
theorem G.bub {st : SortSt} (g : G a₀ st π) {src l : Nat} (hs : src < a₀.size) (hl : l ≤ src) : G a₀ (setArr st (bubble (arrOf st) src (src - l))) (bub π src l) := GP.bub g hs hl
theorem G.mir {st : SortSt} (g : G a₀ st π) {i j : Nat} (hj : j ≤ a₀.size) : G a₀ (setArr st (mirror (arrOf st) i j ((j - i) / 2))) (mir π i j) := GP.mir g hj
noncomputable abbrev RunEnd (a₀ : Array Keyed) (nrem : Nat) (Q : Option Nat → SortSt → Prop) : Prop := ∀ m st' π', SBase a₀ st' → G a₀ st' π' → 1 ≤ m → m ≤ nrem → StTo a₀ π' m → Suf a₀ π' m → Q (some m) st'
theorem st_tail3 {st : SortSt} {n nrem : Nat} {Q : Option Nat → SortSt → Prop} (h0 : IntKeys a₀) (hn : nrem ≤ a₀.size) (h1 : 1 ≤ n) (hnn : n ≤ nrem) (hB : SBase a₀ st) (g : G a₀ st π)
  (hd : DeTo a₀ π n) (su : Suf a₀ π n) (h : RunEnd a₀ nrem Q) : wpS (model prog w) A E s (tail3 n nrem) Q st := by
 unfold tail3
 refine wpS_bind (wpS_reverse ?_)
 have hB' : SBase a₀ (setArr st (mirror (arrOf st) 0 n ((n - 0) / 2))) := hB.setArr (mirror_perm _ _ _ _)
 have g' : G a₀ (setArr st (mirror (arrOf st) 0 n ((n - 0) / 2))) (mir π 0 n) := G.mir g (by exact Z14 hnn hn)
 have st0 : StTo a₀ (mir π 0 n) n := hd.rev
 refine wpS_bind (wpS_ascLoop h0 hn h1 hnn hB' ?_ fun m hm1 hm2 hsm _ => wpS_pure (h m _ (mir π 0 n) hB' g' (by exact Z14 h1 hm1) hm2 (g'.asc hm1 (by exact Z14 hm2 hn) st0 (su.mir (Nat.le_refl _)) hsm) ((su.mir (Nat.le_refl _)).mono hm1 (Z14 hm2 hn))))
 intro i j hij hj
 rw [g'.key (by lia), g'.key (by exact Z7 hj (Z14 hnn hn))]
 rcases Nat.lt_or_eq_of_le hij with h2 | h2
 ·rcases st0 i j h2 hj with h3 | ⟨h3, _⟩
  ·exact Int.le_of_lt h3
  ·exact Int.le_of_eq h3
 ·subst h2; exact Int.le_refl _
structure DeBlk (a₀ : Array Keyed) (π : Nat → Nat) (x q : Nat) : Prop where
 le : q + 1 ≤ x
 old : ∀ i j, i < j → j < x - (q + 1) → K a₀ (π j) < K a₀ (π i) ∨ (K a₀ (π i) = K a₀ (π j) ∧ π j < π i)
 mid : ∀ i j, i < x - (q + 1) → x - (q + 1) ≤ j → j < x → K a₀ (π j) < K a₀ (π i)
 blk : ∀ i j, x - (q + 1) ≤ i → i < j → j < x → K a₀ (π i) = K a₀ (π j) ∧ π i < π j
theorem DeBlk.flat {x : Nat} (d : DeBlk a₀ π x 0) : DeTo a₀ π x := fun i j hij hj => by
 by_cases h : j < x - 1
 ·exact d.old i j hij h
 ·exact .inl (d.mid i j (by exact Z7 hij (Z65 hj)) (by exact Z3 h) hj)
theorem DeBlk.rev {x q : Nat} (d : DeBlk a₀ π x q) : DeTo a₀ (mir π (x - (q + 1)) x) x := fun i j hij hj => by
 have := d.le
 have ei : x - (q + 1) ≤ i → mir π (x - (q + 1)) x i = π (x - (q + 1) + x - 1 - i) := fun z => if_pos (by exact ⟨z, Z13 hij hj⟩)
 have ei' : ¬ x - (q + 1) ≤ i → mir π (x - (q + 1)) x i = π i := fun z => if_neg (by exact Z63 z)
 have ej : x - (q + 1) ≤ j → mir π (x - (q + 1)) x j = π (x - (q + 1) + x - 1 - j) := fun z => if_pos (by exact ⟨z, hj⟩)
 have ej' : ¬ x - (q + 1) ≤ j → mir π (x - (q + 1)) x j = π j := fun z => if_neg (by exact Z63 z)
 by_cases h1 : x - (q + 1) ≤ i
 ·rw [ei h1, ej (by exact Z46 h1 hij)]
  obtain ⟨h2, h3⟩ := d.blk (x - (q + 1) + x - 1 - j) (x - (q + 1) + x - 1 - i) (by lia) (by lia) (by lia)
  exact .inr ⟨h2.symm, h3⟩
 ·rw [ei' h1]
  by_cases h2 : x - (q + 1) ≤ j
  ·rw [ej h2]
   exact .inl (d.mid i _ (by exact Nat.lt_of_not_le h1) (by lia) (by lia))
  ·rw [ej' h2]
   exact d.old i j hij (by exact Nat.lt_of_not_le h2)
theorem st_descLoop {st : SortSt} {n nrem : Nat} {Q : DescSt → SortSt → Prop} (h0 : IntKeys a₀) (hn : nrem ≤ a₀.size) (h1 : 1 ≤ n) (hnn : n ≤ nrem) (hB : SBase a₀ st) (g : G a₀ st π)
  (hd : DeBlk a₀ π n 0) (su : Suf a₀ π n)
  (h : ∀ m q st' π', SBase a₀ st' → G a₀ st' π' → n ≤ m → m ≤ nrem → DeBlk a₀ π' m q → Suf a₀ π' m → Q (none, m, q) st') :
  wpS (model prog w) A E s (descLoop n nrem) Q st := by
 unfold descLoop
 refine wpS_forRange (I := fun x c st' => ∃ q π', c = (none, x, q) ∧ SBase a₀ st' ∧ G a₀ st' π' ∧ DeBlk a₀ π' x q ∧ Suf a₀ π' x) ?step ?fin ⟨0, π, rfl, hB, g, hd, su⟩
 case fin =>
  rintro c st' ⟨q, π', rfl, hB', g', d', s'⟩
  rw [show max n nrem = nrem by exact Nat.max_eq_right hnn] at d' s' ⊢
  exact h nrem q st' π' hB' g' hnn (Nat.le_refl _) d' s'
 case step =>
  rintro x c st' hax hxn ⟨q, π', rfl, hB', g', d', s'⟩
  dsimp only
  have hq := d'.le
  refine wpS_bind (wpS_ltK hB' h0 (by exact Z7 hxn hn) (by exact Z11 (Z7 hxn hn)) ?_)
  by_cases hless : K (arrOf st') x < K (arrOf st') (x - 1)
  ·simp only [hless, decide_true, if_true]
   rw [g'.key (by exact Z7 hxn hn), g'.key (by exact Z11 (Z7 hxn hn))] at hless
   have fin : ∀ {π'' : Nat → Nat}, DeTo a₀ π'' x → (∀ i, i < x → K a₀ (π' (x - 1)) ≤ K a₀ (π'' i)) → π'' x = π' x → DeBlk a₀ π'' (x + 1) 0 := fun {π''} d hK e =>
    ⟨by exact Nat.le_add_left (0 + 1) x, fun i j hij hj => d i j hij (by exact Z77 (Z78 hj)), fun i j hi hj hj2 => by
     have hjx : j = x := by lia
     subst hjx
     rw [e]
     exact Int.lt_of_lt_of_le hless (hK i (by exact Z77 (Z78 hi))), fun i j hi hij hj => by exact Z2 hij (Z14 (Z65 hj) hi)⟩
   have hmin : ∀ i, i < x → K a₀ (π' (x - 1)) ≤ K a₀ (π' i) := fun i hi => by
    by_cases h2 : i < x - (q + 1)
    ·exact Int.le_of_lt (d'.mid i (x - 1) h2 (by lia) (by exact Z73 (Z14 h1 hax)))
    ·rcases Nat.lt_or_ge i (x - 1) with h3 | h3
     ·exact Int.le_of_eq (d'.blk i (x - 1) (by exact Z3 h2) h3 (by exact Z73 (Z14 h1 hax))).1.symm
     ·have : i = x - 1 := by exact Nat.le_antisymm (Z65 hi) h3
      subst this; exact Int.le_refl _
   by_cases hneq : q > 0
   ·rw [if_pos hneq]
    refine wpS_bind (wpS_reverse (wpS_pure ⟨0, mir π' (x - (q + 1)) x, rfl, hB'.setArr (mirror_perm _ _ _ _), G.mir g' (by exact Z5 hxn hn), fin d'.rev (fun i hi => ?_) ?_, (s'.mir (Nat.le_refl _)).mono (Nat.le_succ x) (Z7 hxn hn)⟩))
    ·unfold Mine.mir
     split
     ·exact hmin _ (by lia)
     ·exact hmin _ hi
    ·unfold Mine.mir
     rw [if_neg (by exact Z72 (Nat.lt_irrefl x))]
   ·rw [if_neg hneq]
    have : q = 0 := by exact Z74 hneq
    subst this
    exact wpS_pure ⟨0, π', rfl, hB', g', fin d'.flat hmin rfl, s'.mono (Nat.le_succ x) (Z7 hxn hn)⟩
  ·simp only [hless, decide_false, Bool.false_eq_true, if_false]
   refine wpS_bind (wpS_ltK hB' h0 (by exact Z11 (Z7 hxn hn)) (by exact Z7 hxn hn) ?_)
   by_cases hlarger : K (arrOf st') (x - 1) < K (arrOf st') x
   ·simp only [hlarger, decide_true, if_true]
    exact wpS_pure (h x q st' π' hB' g' hax (by exact Z26 hxn) d' s')
   ·simp only [hlarger, decide_false, Bool.false_eq_true, if_false]
    have heqx : K (arrOf st') x = K (arrOf st') (x - 1) := by exact Int.le_antisymm (Int.le_of_not_gt hlarger) (Int.le_of_not_gt hless)
    rw [g'.key (by exact Z7 hxn hn), g'.key (by exact Z11 (Z7 hxn hn))] at heqx
    have hbk : ∀ i, x - (q + 1) ≤ i → i < x → K a₀ (π' i) = K a₀ (π' (x - 1)) := fun i h2 h3 => by
     rcases Nat.lt_or_ge i (x - 1) with h4 | h4
     ·exact (d'.blk i (x - 1) h2 h4 (by exact Z73 (Z14 h1 hax))).1
     ·have : i = x - 1 := by exact Nat.le_antisymm (Z65 h3) h4
      subst this; rfl
    refine wpS_pure ⟨q + 1, π', rfl, hB', g', ⟨by exact Nat.add_le_add_right hq 1, fun i j hij hj => d'.old i j hij (by exact Z76 hj), fun i j hi hj hj2 => ?_, fun i j hi hij hj => ?_⟩, s'.mono (Nat.le_succ x) (Z7 hxn hn)⟩
    ·by_cases h2 : j < x
     ·exact d'.mid i j (by exact Z76 hi) (by exact Z75 hj) h2
     ·have : j = x := by exact Z37 hj2 h2
      subst this
      rw [heqx]
      exact d'.mid i (j - 1) (by exact Z76 hi) (by lia) (by exact Z73 (Z14 h1 hax))
    ·by_cases h2 : j < x
     ·exact d'.blk i j (by exact Z75 hi) hij h2
     ·have : j = x := by exact Z37 hj h2
      subst this
      refine ⟨by rw [heqx]; exact hbk i (by exact Z75 hi) hij, ?_⟩
      rw [s'.id j (Nat.le_refl _) (Z7 hxn hn)]
      exact s'.bel _ hij
theorem st_descPart {st : SortSt} {n nrem : Nat} {Q : Option Nat → SortSt → Prop} (h0 : IntKeys a₀) (hn : nrem ≤ a₀.size) (hnn : n + 1 ≤ nrem) (hB : SBase a₀ st) (g : G a₀ st π)
  (hd : DeBlk a₀ π (n + 1) 0) (su : Suf a₀ π (n + 1)) (h : RunEnd a₀ nrem Q) : wpS (model prog w) A E s (descPart n nrem) Q st := by
 unfold descPart
 refine wpS_bind (wpS_lift (wpAny_rule ⟨rfl, ?_⟩))
 refine wpS_bind (st_descLoop h0 hn (by exact Nat.le_add_left 1 n) hnn hB g hd su fun m q st' π' hB' g' hm1 hm2 d' s' => ?_)
 dsimp only
 by_cases hneq : q > 0
 ·rw [if_pos hneq]
  exact wpS_bind (wpS_reverse (st_tail3 (π := mir π' (m - (q + 1)) m) h0 hn (by exact Z41 hm1) hm2 (hB'.setArr (mirror_perm _ _ _ _)) (G.mir g' (by exact Z14 hm2 hn)) d'.rev (s'.mir (Nat.le_refl _)) h))
 ·rw [if_neg hneq]
  have : q = 0 := by exact Z74 hneq
  subst this
  exact st_tail3 h0 hn (by exact Z41 hm1) hm2 hB' g' d'.flat s' h
theorem st_countRun {st : SortSt} {nrem : Nat} {Q : Option Nat → SortSt → Prop} (h0 : IntKeys a₀) (hn : nrem ≤ a₀.size) (h1 : 1 ≤ nrem) (hB : SBase a₀ st) (g : G a₀ st id)
  (h : RunEnd a₀ nrem Q) : wpS (model prog w) A E s (countRun' 0 nrem) Q st := by
 rw [countRun0_eq]
 have su : Suf a₀ id 0 := ⟨fun _ _ _ => rfl, fun _ h => absurd h (Nat.not_lt_zero _)⟩
 refine wpS_bind (wpS_ascLoop h0 hn (Nat.le_refl 1) h1 hB (fun i j hij hj => by rw [show i = j by lia]; exact Int.le_refl _) fun n hn1 hn2 hsn hor => ?_)
 have stn : StTo a₀ id n := g.asc (a := 0) (Nat.zero_le _) (by exact Z14 hn2 hn) (fun i j _ hj => by exact Z52 hj) su hsn
 dsimp only
 by_cases hnn : n = nrem
 ·rw [if_pos (by simpa using hnn)]
  exact wpS_pure (h n st id hB g hn1 hn2 stn (su.mono (Nat.zero_le _) (Z14 hn2 hn)))
 ·rw [if_neg (by simpa using hnn)]
  have hlt : K (arrOf st) n < K (arrOf st) (n - 1) := hor.resolve_left hnn
  rw [g.key (by exact Z7 (Z71 hn2 hnn) hn), g.key (by exact Z11 (Z7 (Z71 hn2 hnn) hn))] at hlt
  by_cases hgt : n > 1
  ·rw [if_pos hgt]
   refine wpS_bind (wpS_ltK hB h0 (by exact Z42 (Z14 h1 hn)) (by exact Z11 (Z7 (Z71 hn2 hnn) hn)) ?_)
   by_cases hrose : K (arrOf st) 0 < K (arrOf st) (n - 1)
   ·simp only [hrose, decide_true, if_true]
    exact wpS_pure (h n st id hB g hn1 hn2 stn (su.mono (Nat.zero_le _) (Z14 hn2 hn)))
   ·simp only [hrose, decide_false, Bool.false_eq_true, if_false]
    have hall : ∀ k, k < n → K a₀ k = K a₀ (n - 1) := by
     intro k hk
     have a1 := hsn 0 k (by exact Nat.zero_le k) hk
     have a2 := hsn k (n - 1) (by exact Z65 hk) (by exact Z73 hn1)
     have e := g.key (i := k) (by exact Z7 hk (Z14 hn2 hn))
     have e' := g.key (i := n - 1) (by exact Z11 (Z7 (Z71 hn2 hnn) hn))
     simp only [id] at e e'
     lia
    refine wpS_bind (wpS_reverse (st_descPart (π := mir id 0 n) h0 hn (by exact Z8 (Z71 hn2 hnn)) (hB.setArr (mirror_perm _ _ _ _)) (G.mir g (by exact Z14 hn2 hn)) ⟨by exact Nat.le_add_left (0 + 1) n, fun i j hij hj => ?_, fun i j hi hj hj2 => ?_, fun i j hi hij hj => by exact Z2 hij (Z14 (Z65 hj) hi)⟩ (Suf.mir (su.mono (Nat.zero_le _) (Nat.le_trans (Nat.lt_of_le_of_ne hn2 hnn) hn)) (by exact Nat.le_succ n)) h))
    ·refine .inr ?_
     unfold Mine.mir
     rw [if_pos (by lia), if_pos (by lia)]
     simp only [id]
     exact ⟨(hall _ (by lia)).trans (hall _ (by lia)).symm, by lia⟩
    ·have : j = n := by lia
     subst this
     unfold Mine.mir
     rw [if_neg (by exact Z72 (Nat.lt_irrefl j)), if_pos (by lia)]
     simp only [id] at hlt ⊢
     rw [hall (0 + j - 1 - i) (by lia)]
     exact hlt
  ·rw [if_neg hgt]
   have hn1' : n = 1 := by exact Nat.le_antisymm (Z3 hgt) hn1
   subst hn1'
   refine st_descPart h0 hn (by exact Z8 (Z71 h1 hnn)) hB g ⟨by exact Nat.le_succ (0 + 1), fun i j hij hj => by exact Z2 hj (Z70 hij), fun i j hi hj hj2 => ?_, fun i j hi hij hj => by exact Z2 hj (Z39 hi hij)⟩ (su.mono (Nat.zero_le _) (Nat.le_trans (Nat.lt_of_le_of_ne h1 hnn) hn)) h
   have hi0 : i = 0 := by exact Z69 hi
   have hj1 : j = 1 := by exact Z68 hj2 hj
   subst hi0; subst hj1
   exact hlt
theorem wpS_ifP {α : Type} {M : Model} {c : Prop} [Decidable c] {a b : StateT SortSt Sem α} {st : SortSt} {Q : α → SortSt → Prop} (h : c) (q : wpS M A E s a Q st) : wpS M A E s (if c then a else b) Q st := by rw [if_pos h]; exact q
theorem wpS_ifN {α : Type} {M : Model} {c : Prop} [Decidable c] {a b : StateT SortSt Sem α} {st : SortSt} {Q : α → SortSt → Prop} (h : ¬c) (q : wpS M A E s b Q st) : wpS M A E s (if c then a else b) Q st := by rw [if_neg h]; exact q
inductive BsI (a₀ : Array Keyed) (k : Nat) {ρ : Type} : Option ρ × Unit → SortSt → Prop | mk {st : SortSt} (π : Nat → Nat) (hB : SBase a₀ st) (g : G a₀ st π) (hs : StTo a₀ π k) (su : Suf a₀ π k) : BsI a₀ k (none, ()) st
inductive BsJ (st : SortSt) (k x : Nat) {ρ : Type} : Option ρ × Nat × Nat → SortSt → Prop | mk (l r : Nat) (lr : l ≤ r) (rk : r ≤ k) (m : r + x ≤ k + l) (lo : ∀ i, i < l → K (arrOf st) i ≤ K (arrOf st) k) (hi : ∀ i, r ≤ i → i < k → K (arrOf st) k < K (arrOf st) i) : BsJ st k x (none, l, r) st
inductive BsK (st : SortSt) (k : Nat) {ρ : Type} : Option ρ × Nat × Nat → SortSt → Prop | mk (l : Nat) (lk : l ≤ k) (lo : ∀ i, i < l → K (arrOf st) i ≤ K (arrOf st) k) (hi : ∀ i, l ≤ i → i < k → K (arrOf st) k < K (arrOf st) i) : BsK st k (none, l, l) st
theorem st_binarySort {st : SortSt} {n ok : Nat} {Q : Bool → SortSt → Prop} (h0 : IntKeys a₀) (hn : n ≤ a₀.size) (h1 : 1 ≤ ok) (hok : ok ≤ n) (hB : SBase a₀ st) (g : G a₀ st π) (hs : StTo a₀ π ok) (su : Suf a₀ π ok)
  (h : ∀ st' π', SBase a₀ st' → G a₀ st' π' → StTo a₀ π' n → Q true st') : wpS (model prog w) A E s (binarySort' 0 n ok) Q st := by
 rw [binarySort'_eq]
 have e1 : max ok 1 = ok := Nat.max_eq_left h1
 refine wpS_bind (wpS_mono (wpS_forRange (I := fun k c st' => BsI a₀ k c st') (Q := fun c st' => BsI a₀ n c st') (fun k c st' hak hkn z => ?step) (fun c st' z => ?fin) ?init) fun c st' z => ?post)
 case post =>
  induction z with
  | mk π' hB' g' hs' su' => exact wpS_pure (h _ π' hB' g' hs')
 case init => exact e1.symm ▸ ⟨π, hB, g, hs, su⟩
 case fin => rw [e1, Nat.max_eq_right hok] at z; exact z
 case step =>
  induction z with
  | @mk st' π' hB' g' hs' su' =>
  have hk : k < a₀.size := Z7 hkn hn
  have ky : ∀ {i}, i ≤ k → K (arrOf st') i = K a₀ (π' i) := fun z => g'.key (Nat.lt_of_le_of_lt z hk)
  have hs1 : ∀ i j, i ≤ j → j < k → K (arrOf st') i ≤ K (arrOf st') j := fun i j hij hj => by
   rw [ky (Nat.le_trans hij (Nat.le_of_lt hj)), ky (Nat.le_of_lt hj)]
   rcases Nat.lt_or_eq_of_le hij with h2 | h2
   ·exact (hs' i j h2 hj).elim Int.le_of_lt fun z => Int.le_of_eq z.1
   ·exact h2 ▸ Int.le_refl _
  refine wpS_bind (wpS_mono (wpS_forRange (I := fun x c st'' => BsJ st' k x c st'') (Q := fun c st'' => BsK st' k c st'') (fun x c st'' _ hxk z => ?istep) (fun c st'' z => ?ifin) ?iinit) fun c st'' z => ?ipost)
  case iinit => exact ⟨0, k, Nat.zero_le k, Nat.le_refl k, Nat.le_refl _, fun i hi => absurd hi (Nat.not_lt_zero i), fun i h1 h2 => absurd h2 (Nat.not_lt_of_le h1)⟩
  case ifin =>
   rw [Nat.zero_max] at z
   induction z with
   | mk l r lr rk m lo hi =>
   rw [Nat.add_comm] at m
   have : l = r := Nat.le_antisymm lr (Nat.le_of_add_le_add_left m)
   subst this
   exact ⟨l, rk, lo, hi⟩
  case istep =>
   induction z with
   | mk l r lr rk m lo hi =>
   dsimp only
   by_cases hge : l ≥ r
   ·rw [if_pos hge]
    have : l = r := Nat.le_antisymm lr hge
    subst this
    exact wpS_pure ⟨l, rk, lo, hi⟩
   ·rw [if_neg hge]
    have c := Nat.lt_of_not_le hge
    generalize hmid : (l + r) / 2 = mid
    have m1 : l ≤ mid := Z6 c hmid
    have m2 : mid < r := Z9 c hmid
    have m3 := Nat.lt_of_lt_of_le m2 rk
    rw [Nat.zero_add, Nat.zero_add]
    refine wpS_bind (wpS_ltK hB' h0 hk (Nat.lt_trans m3 hk) ?_)
    by_cases hless : K (arrOf st') k < K (arrOf st') mid
    ·rw [decide_eq_true hless]
     exact wpS_ifP rfl <| wpS_pure ⟨l, mid, m1, Nat.le_of_lt m3, by lia, lo, fun i h1 h2 => Int.lt_of_lt_of_le hless (hs1 _ _ h1 h2)⟩
    ·rw [decide_eq_false hless]
     exact wpS_ifN Bool.false_ne_true <| wpS_pure ⟨mid + 1, r, m2, rk, by lia, fun i h1 => Int.le_trans (hs1 i mid (Nat.le_of_lt_succ h1) m3) (Int.not_lt.mp hless), hi⟩
  case ipost =>
   induction z with
   | mk l lk lo hi =>
   show wpS _ _ _ _ (do moveDown' (0 + k) (0 + l); pure (ForInStep.yield (none, ()))) _ _
   rw [Nat.zero_add, Nat.zero_add, moveDown'_eq]
   exact wpS_bind (wpS_modify (wpS_pure ⟨bub π' k l, hB'.setArr (bubble_perm _ _ _), G.bub g' hk lk, hs'.bub su' hk lk (fun i z => by have := lo i z; rwa [ky (Nat.le_of_lt (Nat.lt_of_lt_of_le z lk)), ky (Nat.le_refl k)] at this) (fun i z z' => by have := hi i z z'; rwa [ky (Nat.le_of_lt z'), ky (Nat.le_refl k)] at this), Suf.bub (su'.mono (Nat.le_succ k) hk) (Nat.lt_succ_self k) lk⟩))
inductive StDone (a₀ : Array Keyed) (st : SortSt) : Prop | mk (f : failedOf st = none) (p : (pendingOf st).size ≤ 1) (π : Nat → Nat) (g : G a₀ st π) (hs : StTo a₀ π a₀.size) : StDone a₀ st
theorem st_done {st : SortSt} {m : Nat} (hB : SBase a₀ st) (g : G a₀ st π) (hs : StTo a₀ π m) (e : m = a₀.size) {x : Nat × Nat × Nat} : StDone a₀ (setPending st ((pendingOf st).push x)) :=
 ⟨hB.failed, by show ((pendingOf st).push x).size ≤ 1; rw [hB.pend]; exact Nat.le_refl 1, π, g, e ▸ hs⟩
inductive SrI (a₀ : Array Keyed) (N x : Nat) {ρ : Type} : Option ρ × Nat → SortSt → Prop
 | start {st : SortSt} (e : x = 0) (hB : SBase a₀ st) (g : G a₀ st id) : SrI a₀ N x (none, 0) st
 | done {st : SortSt} {m : Nat} (hx : x ≠ 0) (e : N ≤ m) (D : StDone a₀ st) : SrI a₀ N x (none, m) st
inductive SrQ (a₀ : Array Keyed) {ρ : Type} : Option ρ × Nat → SortSt → Prop | mk {st : SortSt} {m : Nat} (D : StDone a₀ st) : SrQ a₀ (none, m) st
inductive SrU (st : SortSt) {ρ : Type} : Option ρ × Unit → SortSt → Prop | mk : SrU st (none, ()) st
theorem minrun {n : Nat} (h : 0 < n) (h' : n < 64) : minRun' n n 0 = n := by
 cases n with
 | zero => exact absurd h (Nat.lt_irrefl 0)
 | succ n => rw [minRun'_succ, if_pos h']
theorem st_sortRuns {st : SortSt} {Q : Unit → SortSt → Prop} (h0 : IntKeys a₀) (hB : SBase a₀ st) (g : G a₀ st id) (h2 : 2 ≤ a₀.size) (h64 : a₀.size < 64)
  (h : ∀ st' π, failedOf st' = none → G a₀ st' π → StTo a₀ π a₀.size → Q () st') : wpS (model prog w) A E s sortRuns' Q st := by
 rw [sortRuns'_eq]
 refine wpS_bind (wpS_get ?_)
 dsimp only
 have hsz := hB.size
 generalize (arrOf st).size = N at hsz ⊢
 have hN : 0 < N := hsz ▸ Nat.lt_of_succ_lt h2
 have hM := minrun hN (hsz ▸ h64)
 generalize minRun' N N 0 = M at hM ⊢
 have hmm : min (N - 0) M = N := hM ▸ Nat.min_self N
 refine wpS_bind (wpS_mono (wpS_forRange (I := fun x c st' => SrI a₀ N x c st') (Q := fun c st' => SrQ a₀ c st') (fun x c st' _ hx z => ?step) (fun c st' z => ?fin) (.start rfl hB g)) fun c st' z => ?post)
 case fin =>
  induction z with
  | start e => exact absurd ((Nat.zero_max N).symm.trans e) (Nat.ne_of_gt hN)
  | done _ _ D => exact ⟨D⟩
 case step =>
  induction z with
  | start e hB' g' =>
   subst e
   refine wpS_ifN (Nat.not_le_of_lt hN) (wpS_bind (st_countRun h0 (Nat.le_of_eq hsz) hN hB' g' fun m st2 π2 hB2 g2 hm1 hm2 hs2 su2 => ?_))
   dsimp only
   by_cases hlt : m < M
   ·refine wpS_ifP hlt (wpS_bind (wpS_lift (wpAny_rule ⟨rfl, ?_⟩)))
    refine wpS_bind (st_binarySort h0 (Nat.le_of_eq (hmm.trans hsz)) hm1 (Nat.le_trans hm2 (Nat.le_of_eq hmm.symm)) hB2 g2 hs2 su2 fun st3 π3 hB3 g3 hs3 => wpS_ifN (by decide) (wpS_bind (wpS_get ?_)))
    rw [show (pendingOf st3).back? = none by rw [hB3.pend]; rfl]
    exact wpS_bind (wpS_modify (wpS_pure (.done Nat.one_ne_zero (by rw [hmm]; exact Nat.le_add_left N 0) (st_done hB3 g3 hs3 (hmm.trans hsz)))))
   ·have e : m = N := Nat.le_antisymm hm2 (hM ▸ Nat.le_of_not_lt hlt)
    refine wpS_ifN hlt (wpS_bind (wpS_get ?_))
    rw [show (pendingOf st2).back? = none by rw [hB2.pend]; rfl]
    exact wpS_bind (wpS_modify (wpS_pure (.done Nat.one_ne_zero (e ▸ Nat.le_add_left _ 0) (st_done hB2 g2 hs2 (e.trans hsz)))))
  | done _ e D => exact wpS_ifP e (wpS_pure ⟨D⟩)
 case post =>
  induction z with
  | @mk st' m D =>
  refine wpS_bind (wpS_mono (wpS_forRange (I := fun _ c st'' => SrU st' c st'') (Q := fun c st'' => SrU st' c st'') (fun x c st'' _ _ z => ?_) (fun _ _ hh => hh) .mk) fun c st'' z => ?_)
  ·induction z with
   | mk => exact StDone.casesOn D fun _ p _ _ _ => wpS_bind (wpS_get (wpS_ifP p (wpS_pure .mk)))
  ·induction z with
   | mk => exact StDone.casesOn D fun f _ π g hs => wpS_pure (h _ π f g hs)
end
end Mine
namespace Mine
section
variable {α β : Type}
theorem insS_map (f : α → β) (k : Int) (v : α) : ∀ l : List (Int × α), insS k (f v) (l.map fun p => (p.1, f p.2)) = (insS k v l).map fun p => (p.1, f p.2)
 | [] => rfl
 | (k', v') :: r => by
  simp only [List.map_cons, insS]
  split
  ·simp
  ·simp [insS_map f k v r]
theorem sortS_map (f : α → β) (l : List (Int × α)) : sortS (l.map fun p => (p.1, f p.2)) = (sortS l).map fun p => (p.1, f p.2) := by
 unfold sortS
 have : ∀ (l acc : List (Int × α)), (l.map fun p => (p.1, f p.2)).foldl (fun acc p => insS p.1 p.2 acc) (acc.map fun p => (p.1, f p.2)) = (l.foldl (fun acc p => insS p.1 p.2 acc) acc).map fun p => (p.1, f p.2) := by
  intro l
  induction l with
  | nil => intro acc; rfl
  | cons p l ih => intro acc; simp only [List.map_cons, List.foldl_cons]; rw [insS_map, ih]
 exact this l []
theorem mem_insS {k : Int} {v : α} {p : Int × α} : ∀ {l : List (Int × α)}, p ∈ insS k v l ↔ p = (k, v) ∨ p ∈ l
 | [] => by simp [insS]
 | (k', v') :: r => by
  unfold insS
  split
  ·simp
  ·simp only [List.mem_cons, mem_insS (l := r)]
   constructor
   ·rintro (h | h | h)
    ·exact .inr (.inl h)
    ·exact .inl h
    ·exact .inr (.inr h)
   ·rintro (h | h | h)
    ·exact .inr (.inl h)
    ·exact .inl h
    ·exact .inr (.inr h)
theorem insS_perm (k : Int) (v : α) : ∀ l : List (Int × α), (insS k v l).Perm ((k, v) :: l)
 | [] => .refl _
 | (k', v') :: r => by
  unfold insS
  split
  ·exact .refl _
  ·exact ((insS_perm k v r).cons _).trans (.swap ..)
theorem sortS_perm (l : List (Int × α)) : (sortS l).Perm l := by
 unfold sortS
 have : ∀ (l acc : List (Int × α)), (l.foldl (fun acc p => insS p.1 p.2 acc) acc).Perm (acc ++ l) := by
  intro l
  induction l with
  | nil => intro acc; simp
  | cons p l ih =>
   intro acc
   simp only [List.foldl_cons]
   refine (ih _).trans ?_
   refine ((insS_perm p.1 p.2 acc).append_right l).trans ?_
   exact List.perm_middle.symm
 simpa using this l []
theorem sortS_snoc (l : List (Int × α)) (k : Int) (v : α) : sortS (l ++ [(k, v)]) = insS k v (sortS l) := by
 unfold sortS; rw [List.foldl_append]; rfl
noncomputable def lexLt (p q : Int × Nat) : Prop := p.1 < q.1 ∨ (p.1 = q.1 ∧ p.2 < q.2)
theorem insS_lex {k : Int} {i : Nat} : ∀ {l : List (Int × Nat)}, l.Pairwise lexLt → (∀ p ∈ l, p.2 < i) → (insS k i l).Pairwise lexLt
 | [], _, _ => List.pairwise_singleton _ _
 | (k', i') :: r, hp, hi => by
  unfold insS
  obtain ⟨h1, h2⟩ := List.pairwise_cons.mp hp
  split
  ·rename_i hlt
   refine List.pairwise_cons.mpr ⟨fun q hq => ?_, hp⟩
   rcases List.mem_cons.mp hq with rfl | hq
   ·exact .inl hlt
   ·rcases h1 q hq with h3 | ⟨h3, _⟩
    ·exact .inl (Int.lt_trans hlt h3)
    ·exact .inl (Int.lt_of_lt_of_le hlt (Int.le_of_eq h3))
  ·rename_i hge
   refine List.pairwise_cons.mpr ⟨fun q hq => ?_, insS_lex h2 fun p hp' => hi p (.tail _ hp')⟩
   rcases mem_insS.mp hq with rfl | hq
   ·rcases Int.lt_or_eq_of_le (Int.not_lt.mp hge) with h3 | h3
    ·exact .inl h3
    ·exact .inr ⟨h3, hi _ (.head _)⟩
   ·exact h1 q hq
theorem sortS_lex (f : Nat → Int) : ∀ n, (sortS ((List.range n).map fun i => (f i, i))).Pairwise lexLt
 | 0 => List.Pairwise.nil
 | n + 1 => by
  rw [List.range_succ, List.map_append]
  show (sortS (_ ++ [(f n, n)])).Pairwise lexLt
  rw [sortS_snoc]
  refine insS_lex (sortS_lex f n) fun p hp => ?_
  have := (sortS_perm _).mem_iff.mp hp
  obtain ⟨i, hi, rfl⟩ := List.mem_map.mp this
  exact List.mem_range.mp hi
theorem lex_irrefl (p : Int × Nat) : ¬ lexLt p p := by rintro (h | ⟨_, h⟩) <;> lia
theorem lex_asymm {p q : Int × Nat} (h : lexLt p q) : ¬ lexLt q p := by
 rcases h with h | ⟨h, h'⟩ <;> rintro (g | ⟨g, g'⟩) <;> lia
theorem lex_uniq : ∀ {l m : List (Int × Nat)}, l.Pairwise lexLt → m.Pairwise lexLt → (∀ p, p ∈ l ↔ p ∈ m) → l = m
 | [], m, _, _, h => by
  cases m with
  | nil => rfl
  | cons q m => exact absurd ((h q).mpr (.head _)) (by simp)
 | p :: l, [], _, _, h => absurd ((h p).mp (.head _)) (by simp)
 | p :: l, q :: m, hl, hm, h => by
  obtain ⟨a1, a2⟩ := List.pairwise_cons.mp hl
  obtain ⟨b1, b2⟩ := List.pairwise_cons.mp hm
  have hpq : p = q := by
   rcases List.mem_cons.mp ((h p).mp (.head _)) with e | e
   ·exact e
   ·rcases List.mem_cons.mp ((h q).mpr (.head _)) with e' | e'
    ·exact e'.symm
    ·exact absurd (a1 q e') (lex_asymm (b1 p e))
  subst hpq
  rw [lex_uniq a2 b2 fun r => ?_]
  constructor
  ·intro hr
   rcases List.mem_cons.mp ((h r).mp (.tail _ hr)) with e | e
   ·subst e; exact absurd (a1 _ hr) (lex_irrefl _)
   ·exact e
  ·intro hr
   rcases List.mem_cons.mp ((h r).mpr (.tail _ hr)) with e | e
   ·subst e; exact absurd (b1 _ hr) (lex_irrefl _)
   ·exact e
theorem sortS_of (f : Nat → Int) (n : Nat) (π : Nat → Nat) (lt : ∀ i, i < n → π i < n) (inj : ∀ i j, i < n → j < n → π i = π j → i = j)
  (so : ∀ i j, i < j → j < n → f (π i) < f (π j) ∨ (f (π i) = f (π j) ∧ π i < π j)) : sortS ((List.range n).map fun i => (f i, i)) = (List.range n).map fun i => (f (π i), π i) := by
 refine lex_uniq (sortS_lex f n) ?_ fun p => ?_
 ·rw [List.pairwise_map]
  have : (List.range n).Pairwise (fun a b => a < b ∧ b < n) := by
   refine List.Pairwise.imp_of_mem ?_ List.pairwise_lt_range
   intro a b _ hb hab
   exact ⟨hab, List.mem_range.mp hb⟩
  exact this.imp fun {a b} h => so a b h.1 h.2
 ·rw [(sortS_perm _).mem_iff]
  have hnd : ((List.range n).map π).Nodup := by
   rw [List.nodup_iff_pairwise_ne, List.pairwise_map]
   refine List.Pairwise.imp_of_mem ?_ List.pairwise_lt_range
   intro a b ha hb hab e
   have := inj a b (List.mem_range.mp ha) (List.mem_range.mp hb) e
   exact Z2 hab (Z27 (Eq.symm this))
  constructor
  ·intro hp
   obtain ⟨i, hi, rfl⟩ := List.mem_map.mp hp
   have hi := List.mem_range.mp hi
   have : i ∈ (List.range n).map π := by
    refine Classical.byContradiction fun hni => ?_
    have h1 : (i :: (List.range n).map π).Nodup := List.nodup_cons.mpr ⟨hni, hnd⟩
    have h2 := h1.length_le_of_subset (l₂ := List.range n) (fun x hx => by
     rcases List.mem_cons.mp hx with rfl | hx
     ·exact List.mem_range.mpr hi
     ·obtain ⟨j, hj, rfl⟩ := List.mem_map.mp hx
      exact List.mem_range.mpr (lt j (List.mem_range.mp hj)))
    simp at h2
    exact Z2 (Nat.lt_succ_self n) h2
   obtain ⟨j, hj, rfl⟩ := List.mem_map.mp this
   exact List.mem_map.mpr ⟨j, hj, rfl⟩
  ·intro hp
   obtain ⟨i, hi, rfl⟩ := List.mem_map.mp hp
   exact List.mem_map.mpr ⟨π i, List.mem_range.mpr (lt i (List.mem_range.mp hi)), rfl⟩
end
end Mine
namespace Mine
open PySem PySem.W PySem.Calls PyProof.Rows PyProof.V PySem.Spec PySem.SeqAt
theorem zip_range {α : Type} (d : α) {kz : List Int} {xs : List α} (hl : kz.length = xs.length) : kz.zip xs = ((List.range xs.length).map fun i => (kz.getD i 0, i)).map fun p => (p.1, xs.getD p.2 d) := by
 refine List.ext_getElem? fun i => ?_
 by_cases hi : i < xs.length
 ·rw [List.getElem?_eq_getElem (by simp; lia), List.getElem?_eq_getElem (by simpa using hi)]
  simp [List.getD_eq_getElem?_getD, hi, hl]
 ·rw [List.getElem?_eq_none (by simp; lia), List.getElem?_eq_none (by simp; exact Z3 hi)]
theorem sort_out {α : Type} (d : α) {kz : List Int} {xs : List α} (hl : kz.length = xs.length) (π : Nat → Nat) (lt : ∀ i, i < xs.length → π i < xs.length) (inj : ∀ i j, i < xs.length → j < xs.length → π i = π j → i = j)
  (so : ∀ i j, i < j → j < xs.length → kz.getD (π i) 0 < kz.getD (π j) 0 ∨ (kz.getD (π i) 0 = kz.getD (π j) 0 ∧ π i < π j)) : (sortS (kz.zip xs)).map (·.2) = (List.range xs.length).map fun i => xs.getD (π i) d := by
 rw [zip_range d hl, sortS_map fun i => xs.getD i d, sortS_of (fun i => kz.getD i 0) xs.length π lt inj so]
 simp
theorem keys_size {keys : Array Value} {kz : List Int} {n : Nat} (hk : IntsAre keys.toList kz) (hl : kz.length = n) : keys.size = n := by
 have h1 := hk.length
 rw [Array.length_toList] at h1
 exact h1.trans hl
theorem K_zip {keys : Array Value} {vs : List Value} {kz : List Int} (hk : IntsAre keys.toList kz) (hl : kz.length = vs.length) (i : Nat) : K (keys.zip vs.toArray) i = kz.getD i 0 := by
 have hsz := keys_size hk hl
 unfold K
 by_cases hi : i < vs.length
 ·have hz : i < (keys.zip vs.toArray).size := by rw [Array.size_zip]; simp; lia
  rw [getElem?_pos _ i hz]
  have hn := hk.nums
  have : kz.getD i 0 = numOf keys[i] := by
   rw [← hn]
   simp [List.getD_eq_getElem?_getD, hsz, hi]
  rw [this]
  simp
 ·rw [getElem?_neg _ i (by rw [Array.size_zip]; simp; lia)]
  simp [List.getD_eq_getElem?_getD, hl, hi]
section
variable {n : Nat} {C : Cx} {sc : Scope} {fr : Fm} {g g₁ : Sg} {Q : AV → Hp → Prop} {K : Value → Shared → Prop}
theorem sorted_rel {α : List Addr} {keys : Array Value} {vs : List Value} {xs : List AV} {kz : List Int} {ys : Array Keyed} {π : Nat → Nat} (hk : IntsAre keys.toList kz) (hl : kz.length = vs.length) (hr : LR (VR α) xs vs)
  (g : GP (keys.zip vs.toArray) ys π) (so : StTo (keys.zip vs.toArray) π (keys.zip vs.toArray).size) : LR (VR α) ((sortS (kz.zip xs)).map (·.2)) (ys.map (·.2)).toList ∧ (ys.map (·.2)).size = vs.length := by
 have hlx := hr.length
 have hzs : (keys.zip vs.toArray).size = vs.length := by rw [Array.size_zip, keys_size hk hl, List.size_toArray, Nat.min_self]
 have g1 := g.lt; have g3 := g.arr; have g0 := g.sz
 rw [hzs] at g0 g1 g3 so
 unfold StTo at so
 simp only [K_zip hk hl] at so
 rw [sort_out .none (hl.trans hlx.symm) π (fun i hi => by rw [hlx] at hi ⊢; exact g1 i hi) (fun i j hi hj e => by
  rw [hlx] at hi hj
  rcases Nat.lt_trichotomy i j with z | z | z
  ·have := so i j z hj; rw [e] at this; exact (this.elim (Int.lt_irrefl _) fun q => Nat.lt_irrefl _ q.2).elim
  ·exact z
  ·have := so j i z hi; rw [e] at this; exact (this.elim (Int.lt_irrefl _) fun q => Nat.lt_irrefl _ q.2).elim) (fun i j hi hj => by rw [hlx] at hj; exact so i j hi hj)]
 refine ⟨LR.of (by simp [g0, hlx]) fun i x y e1 e2 => ?_, by simp [g0]⟩
 rw [List.getElem?_map] at e1
 refine (Option.map_eq_some_iff.mp e1).elim fun j e1 => ?_
 have hi := (List.getElem?_eq_some_iff.mp e1.1).1
 rw [List.length_range, hlx] at hi
 rw [List.getElem?_range (hlx ▸ hi)] at e1
 obtain ⟨rfl, rfl⟩ : i = j ∧ xs.getD (π j) .none = x := ⟨Option.some.inj e1.1, e1.2⟩
 rw [Array.toList_map, List.getElem?_map, Array.getElem?_toList, g3 i hi] at e2
 have hz : π i < (keys.zip vs.toArray).size := by rw [hzs]; exact g1 i hi
 rw [getElem?_pos (keys.zip vs.toArray) (π i) hz] at e2
 have e2 : vs[π i]'(g1 i hi) = y := by simpa using e2
 have h4 := hr.nth (π i)
 rw [List.getElem?_eq_getElem (hlx ▸ g1 i hi), List.getElem?_eq_getElem (g1 i hi), e2] at h4
 rw [List.getD_eq_getElem?_getD, List.getElem?_eq_getElem (hlx ▸ g1 i hi)]
 exact h4
inductive SO (C : Cx) (fr : Fm) (g : Sg) (a kS : Addr) (g₁ : Sg) : Prop | mk (I : Inv C fr g₁) (X : Ext C g g₁) (fa : g.s.heap.get? a = none) (fk : g.s.heap.get? kS = none) (of : Off C g₁.α [kS, a]) (n : kS ≠ a) : SO C fr g a kS g₁
theorem seqSt {a : Addr} {s : Heap} {vs : Array Value} {m : Nat} (e : s.get? a = some (seqObj "list" vs m)) : Stands s a := ⟨_, e, rfl⟩
theorem srt_tail {a kS : Addr} {st : SortSt} {keys : Array Value} {vs : List Value} {xs : List AV} {kz : List Int} {e e1 : Nat} {π : Nat → Nat} (so : SO C fr g a kS g₁) (nk : g₁.s.heap.get? kS = some (seqObj "list" keys e)) (na : g₁.s.heap.get? a = some (seqObj "list" #[] e1)) (hk : IntsAre keys.toList kz) (hl : kz.length = vs.length) (hr : LR (VR g₁.α) xs vs) (h64 : vs.length < 64)
  (gp : G (keys.zip vs.toArray) st π) (ss : StTo (keys.zip vs.toArray) π (keys.zip vs.toArray).size) (hfl : failedOf st = none) (q : Q (.ref g₁.h.length) (g₁.h ++ [.list ((sortS (kz.zip xs)).map (·.2))])) (k : KE C fr g Q K) :
  C.wp (ksk_tail a false e1 (.ref kS) st) (fun fin s' => fin = .done (.ret .none) ∧ K (.ref a) s') g₁.s := SO.casesOn so fun I X fa fk of hka => by
 have rel := sorted_rel (α := g₁.α) (ys := arrOf st) hk hl hr gp ss
 have hsz := keys_size hk hl
 have s1 := Heap.SameBut.update g₁.s.heap kS (Obj.mapSeq fun _ => (#[] : Array Value))
 have na1 : (g₁.s.heap.update kS (Obj.mapSeq fun _ => (#[] : Array Value))).get? a = some (seqObj "list" #[] e1) := (s1.2 a hka.symm).trans na
 have s2 := Heap.SameBut.update (g₁.s.heap.update kS (Obj.mapSeq fun _ => (#[] : Array Value))) a (Obj.mapSeq fun _ => (arrOf st).map (·.2))
 obtain ⟨out, hO⟩ : ∃ out, out = (arrOf st).map (·.2) := ⟨_, rfl⟩
 rw [← hO] at rel s2
 have hc := get?_update_seq na1 fun _ => out
 have kp : ∀ b o, b ∉ [kS, a] → g₁.s.heap.get? b = some o → ((g₁.s.heap.update kS (Obj.mapSeq fun _ => (#[] : Array Value))).update a (Obj.mapSeq fun _ => out)).get? b = some o := fun b o hb eb =>
  (s2.2 b fun z => hb (z ▸ .tail _ (.head _))).trans ((s1.2 b fun z => hb (z ▸ .head _)).trans eb)
 have t : Turn [kS, a] g₁.s { g₁.s with heap := (g₁.s.heap.update kS (Obj.mapSeq fun _ => (#[] : Array Value))).update a (Obj.mapSeq fun _ => out) } := ⟨kp, rfl, rfl⟩
 have I2 := I.off of (fun b hb => (List.mem_cons.mp hb).elim (fun z => z ▸ seqSt nk) fun z => List.mem_singleton.mp z ▸ seqSt na) t
 have hz : ((sortS (kz.zip xs)).map (·.2)).length ≤ 200000 := rel.1.length ▸ (Array.length_toList ▸ rel.2 ▸ Nat.le_of_lt (Nat.lt_of_lt_of_le h64 (by decide)))
 have I3 := InvH.adopt (o := .list ((sortS (kz.zip xs)).map (·.2))) I2 (of a (.tail _ (.head _))) hc rfl (OList.mk (VR.monoL (List.prefix_append _ _) rel.1)) (I.sim.wf.new (newList hz))
 have X3 : Ext C g ⟨g₁.α ++ [a], g₁.h ++ [.list ((sortS (kz.zip xs)).map (·.2))], { g₁.s with heap := (g₁.s.heap.update kS (Obj.mapSeq fun _ => (#[] : Array Value))).update a (Obj.mapSeq fun _ => out) }⟩ :=
  ExtX.adopt (g' := ⟨g₁.α, g₁.h, { g₁.s with heap := (g₁.s.heap.update kS (Obj.mapSeq fun _ => (#[] : Array Value))).update a (Obj.mapSeq fun _ => out) }⟩) (ExtX.off (h' := g₁.h) X (fun b hb => (List.mem_cons.mp hb).elim (fun z => z ▸ fk) fun z => List.mem_singleton.mp z ▸ fa) t) fa
 unfold Cx.wp ksk_tail
 try dsimp only
 rw [← hO]
 refine wpAny_bind (listUpdate_at nk rfl ?_ (by rw [hsz, sizeLine_eq]; exact Z5 h64 (Nat.le_add_left 64 16777152)) (Nat.zero_le _))
 refine wpAny_bind (wpAny_letGo ?_)
 refine wpAny_bind (seqEpoch_at na1 rfl ?_)
 refine wpAny_bind (listUpdate_at na1 rfl ?_ (Nat.zero_le _) (by simp only [Bool.false_eq_true, if_false]; rw [rel.2, sizeLine_eq]; exact Z5 h64 (Nat.le_add_left 64 16777153)))
 rw [hfl]
 simp only [bne_self_eq_false, Bool.false_eq_true, if_false]
 exact wpAny_pure ⟨rfl, k (.ref a) (.ref g₁.h.length) ⟨g₁.α ++ [a], _, _⟩ q (.mk (snoc_at I.sim.len)) I3 X3⟩
end
end Mine
namespace Mine
open PySem PySem.W PySem.Calls PyProof.Rows PyProof.V PySem.Spec PySem.SeqAt
section
variable {n : Nat} {C : Cx} {sc : Scope} {fr : Fm} {g g₁ : Sg} {Q : AV → Hp → Prop} {K : Value → Shared → Prop}
theorem gp_id {a₀ : Array Keyed} : GP a₀ a₀ id := ⟨rfl, fun _ h => h, fun _ _ => rfl⟩
inductive SortEnd (a₀ : Array Keyed) (st : SortSt) : Prop | mk (π : Nat → Nat) (f : failedOf st = none) (g : G a₀ st π) (so : StTo a₀ π a₀.size) : SortEnd a₀ st
theorem srt_end {a kS : Addr} {keys : Array Value} {vs : List Value} {xs : List AV} {kz : List Int} {e e1 : Nat} (so : SO C fr g a kS g₁) (nk : g₁.s.heap.get? kS = some (seqObj "list" keys e)) (na : g₁.s.heap.get? a = some (seqObj "list" #[] e1)) (hk : IntsAre keys.toList kz) (hl : kz.length = vs.length) (hr : LR (VR g₁.α) xs vs) (h64 : vs.length < 64)
  (q : Q (.ref g₁.h.length) (g₁.h ++ [.list ((sortS (kz.zip xs)).map (·.2))])) (k : KE C fr g Q K) : C.wp (ksk_end a false vs.toArray e1 (.ref kS) keys) (fun fin s' => fin = .done (.ret .none) ∧ K (.ref a) s') g₁.s := by
 have hsz := keys_size hk hl
 have hzs : (keys.zip vs.toArray).size = vs.length := by rw [Array.size_zip, hsz, List.size_toArray, Nat.min_self]
 unfold Cx.wp ksk_end
 try dsimp only
 simp only [Bool.false_eq_true, if_false]
 by_cases h2 : vs.toArray.size < 2
 ·rw [if_pos h2, if_pos h2]
  refine wpAny_bind (wpAny_pure ?_)
  rw [StateT.run_pure]
  refine wpAny_bind (wpAny_pure ?_)
  try dsimp only
  rw [List.size_toArray] at h2
  exact srt_tail (st := SortSt.mk' general' (keys.zip vs.toArray) #[] 7 none) (π := id) so nk na hk hl hr h64 gp_id (fun i j hij hj => by lia) rfl q k
 ·rw [if_neg h2, if_neg h2]
  rw [List.size_toArray] at h2
  rw [ksk_kind hk (by rw [hsz]; exact Z3 h2)]
  refine wpAny_bind (wpAny_pure ?_)
  refine wpAny_bind (wpAny_mono (st_sortRuns (a₀ := keys.zip vs.toArray) (st := SortSt.mk' oneType' (keys.zip vs.toArray) #[] 7 none) (Q := fun _ st' => SortEnd (keys.zip vs.toArray) st')
   (ksk_intKeys hk) ⟨Array.Perm.refl _, rfl, rfl, rfl⟩ gp_id (by rw [hzs]; exact Z3 h2) (by rw [hzs]; exact h64) fun st' π a1 a2 a3 => ⟨π, a1, a2, a3⟩) ?_ fun _ _ e => e)
  rintro ⟨⟨⟩, st'⟩ s' ⟨rfl, z⟩
  try dsimp only
  exact SortEnd.casesOn z fun π hf gp ss => srt_tail so nk na hk hl hr h64 gp ss hf q k
inductive KeyI (C : Cx) (fr : Fm) (g : Sg) (a kS : Addr) (α : List Addr) (e1 : Nat) (L : Nat → List Int → Hp → Prop) (i : Nat) (s : Shared) : Prop
 | mk (g₁ : Sg) (kA : Array Value) (e : Nat) (kz : List Int) (es : g₁.s = s) (so : SO C fr g a kS g₁) (p : α <+: g₁.α) (nk : g₁.s.heap.get? kS = some (seqObj "list" kA e)) (na : g₁.s.heap.get? a = some (seqObj "list" #[] e1)) (hk : IntsAre kA.toList kz) (hl : kz.length = i) (q : L i kz g₁.h) : KeyI C fr g a kS α e1 L i s
theorem srt_rest {a kS : Addr} {f : Value} {fa : AV} {vs : List Value} {xs : List AV} {e1 : Nat} (S : SC C.B C.w C.mg C.mb n) (Ao : AOk n C.A) (hkd : C.env.scope.kind = .function) (so : SO C fr g a kS g₁) (nk : g₁.s.heap.get? kS = some (seqObj "list" #[] 0)) (na : g₁.s.heap.get? a = some (seqObj "list" #[] e1)) (hf : VR g₁.α fa f) (hr : LR (VR g₁.α) xs vs) (h64 : vs.length < 64)
  (q : keysG (go n) fa xs g₁.h fun ks h => Q (.ref h.length) (h ++ [.list ((sortS (ks.zip xs)).map (·.2))])) (k : KE C fr g Q K) :
  C.wp (ksk_rest a f false vs.toArray e1 (.ref kS)) (fun fin s' => fin = .done (.ret .none) ∧ K (.ref a) s') g₁.s := by
 unfold Cx.wp ksk_rest
 refine wpAny_bind (wpAny_rule ?_)
 first
  | rw [List.forIn_toArray]
  | (rw [← Array.forIn_toList]; simp only [List.toList_toArray])
  | rw [← Array.forIn_toList]
 refine wpAny_bind (ksk_fold (KeyI C fr g a kS g₁.α e1 fun i kz h => keysG (go n) fa (xs.drop i) h fun ks h => Q (AV.ref h.length) (h ++ [AObj.list ((sortS ((kz ++ ks).zip xs)).map (·.2))])) vs 0 g₁.s ⟨g₁, #[], 0, [], rfl, so, List.prefix_refl _, nk, na, .nil, rfl, q⟩ (fun j x s' hx z => ?_) fun s' z => ?_)
 ·refine KeyI.casesOn z fun g₂ kA e kz es so p nk na hk hl q => ?_
  subst es
  simp only [Nat.zero_add] at hl q ⊢
  have hj : j < vs.length := (List.getElem?_eq_some_iff.mp hx).1
  have hz : kA.size = j := keys_size hk hl
  have hn := hr.nth j
  rw [hx] at hn
  cases hy : xs[j]? with
  | none => rw [hy] at hn; exact hn.elim
  | some y =>
   rw [hy] at hn
   rw [drop_some hy] at q
   refine SO.casesOn so fun I X f2 f1 of hka => wpAny_bind (wpAny_attempt (Cx.wp.E (wpAny_call (S (env := C.env) (g := g₂) (R := wants _ FF) Ao hkd q I (hf.mono p) (.one (VR.mono p hn)) .nil fun v z g₃ q hv I₃ X₃ => ?_))))
   induction q with
   | mk i ei q =>
    subst ei
    refine VInt.casesOn hv fun {t} => ?_
    have st : ∀ b ∈ [kS, a], Stands g₂.s.heap b := fun b hb => (List.mem_cons.mp hb).elim (fun z => z ▸ seqSt nk) fun z => List.mem_singleton.mp z ▸ seqSt na
    have nk3 := of.keep X₃ kS (.head _) _ nk
    have na3 := of.keep X₃ a (.tail _ (.head _)) _ na
    have of3 := of.ext st X₃
    try dsimp only
    have s1 := Heap.SameBut.update g₃.s.heap kS (Obj.mapSeq (·.push (.int i t)))
    have hc2 := get?_update_seq nk3 (·.push (.int i t))
    have t3 : Turn [kS] g₃.s { g₃.s with heap := g₃.s.heap.update kS (Obj.mapSeq (·.push (.int i t))) } := ⟨fun b o hb eb => (s1.2 b fun z => hb (z ▸ .head _)).trans eb, rfl, rfl⟩
    refine wpAny_bind (listUpdate_at nk3 rfl ?_ (by rw [sizeLine_eq]; lia) (Nat.le_trans (Nat.le_of_eq (Array.size_push ..)) (by rw [sizeLine_eq]; lia)))
    refine wpAny_pure ⟨rfl, ⟨g₃.α, g₃.h, { g₃.s with heap := g₃.s.heap.update kS (Obj.mapSeq (·.push (.int i t))) }⟩, kA.push (.int i t), _, kz ++ [i], rfl,
     ⟨I₃.off (fun b hb => of3 b (List.mem_singleton.mp hb ▸ .head _)) (fun b hb => List.mem_singleton.mp hb ▸ seqSt nk3) t3, ExtX.off (h' := g₃.h) (X.trans X₃) (fun b hb => List.mem_singleton.mp hb ▸ f1) t3, f2, f1, of3, hka⟩,
     p.trans X₃.pre, hc2, (s1.2 a hka.symm).trans na3, by rw [Array.toList_push]; exact ksk_snoc hk, by simp [hl], by simpa using q⟩
 ·refine KeyI.casesOn z fun g₂ kA e kz es so p nk na hk hl q => ?_
  subst es
  simp only [Nat.zero_add] at hl q
  rw [List.drop_eq_nil_of_le (Nat.le_of_eq hr.length)] at q
  try dsimp only
  refine wpAny_bind (listItems_at nk rfl ?_)
  exact srt_end so nk na hk hl (VR.monoL p hr) h64 (by simpa [keysG] using q) k
end
end Mine
namespace Mine
open PySem PySem.W PySem.Calls PyProof.Rows PyProof.V PySem.Spec PySem.SeqAt
section
variable {n : Nat} {C : Cx} {sc : Scope} {fr : Fm} {g g₁ : Sg} {Q : AV → Hp → Prop} {K : Value → Shared → Prop}
theorem srt_tree {a : Addr} {f : Value} {fa : AV} {vs : List Value} {xs : List AV} {m : Nat} (S : SC C.B C.w C.mg C.mb n) (Ao : AOk n C.A) (hkd : C.env.scope.kind = .function) (I : Inv C fr g₁) (X : Ext C g g₁) (f2 : g.s.heap.get? a = none) (f1 : g.s.heap.objs.size ≤ g₁.s.heap.objs.size) (F : Free C g₁.α a)
  (ho : g₁.s.heap.get? a = some (seqObj "list" vs.toArray m)) (hf : VR g₁.α fa f) (hr : LR (VR g₁.α) xs vs) (h64 : vs.length < 64)
  (q : keysG (go n) fa xs g₁.h fun ks h => Q (.ref h.length) (h ++ [.list ((sortS (ks.zip xs)).map (·.2))])) (k : KE C fr g Q K) : C.wp (ksk_tree a f false) (fun fin s' => fin = .done (.ret .none) ∧ K (.ref a) s') g₁.s := by
 have ha : a < g₁.s.heap.objs.size := Heap.lt_size ho
 have s1 := Heap.SameBut.update g₁.s.heap a (Obj.mapSeq fun _ => (#[] : Array Value))
 have ho1 := get?_update_seq ho fun _ => #[]
 have hkS : ((g₁.s.heap.update a (Obj.mapSeq fun _ => (#[] : Array Value))).push (seqObj "tuple" vs.toArray 0)).objs.size = g₁.s.heap.objs.size + 1 := by rw [size_push', Heap.size_update]
 have t : Turn [a] g₁.s { g₁.s with heap := ((g₁.s.heap.update a (Obj.mapSeq fun _ => (#[] : Array Value))).push (seqObj "tuple" vs.toArray 0)).push (seqObj "list" #[] 0) } :=
  ⟨fun b o hb eb => Heap.get?_push_of_some _ (Heap.get?_push_of_some _ ((s1.2 b fun z => hb (z ▸ .head _)).trans eb)), rfl, rfl⟩
 have I1 := I.off (fun b hb => List.mem_singleton.mp hb ▸ F) (fun b hb => List.mem_singleton.mp hb ▸ seqSt ho) t
 have X1 : Ext C g ⟨g₁.α, g₁.h, { g₁.s with heap := ((g₁.s.heap.update a (Obj.mapSeq fun _ => (#[] : Array Value))).push (seqObj "tuple" vs.toArray 0)).push (seqObj "list" #[] 0) }⟩ := ExtX.off (h' := g₁.h) X (fun b hb => List.mem_singleton.mp hb ▸ f2) t
 have F2 := InvH.free I (Heap.get?_none_of_le (Nat.le_succ g₁.s.heap.objs.size))
 unfold Cx.wp ksk_tree
 refine wpAny_bind (listItems_at ho rfl ?_)
 refine wpAny_bind (listUpdate_at ho rfl ?_ (by rw [List.size_toArray, sizeLine_eq]; exact Z5 h64 (Nat.le_add_left 64 16777152)) (Nat.zero_le _))
 refine wpAny_bind (seqEpoch_at ho1 rfl ?_)
 refine wpAny_bind (wpAny_newTuple ?_ (by show vs.length ≤ _; rw [sizeLine_eq]; exact Z5 h64 (Nat.le_add_left 64 16777152)))
 refine wpAny_bind (wpAny_newList ?_ (Nat.zero_le _))
 refine wpAny_holding ?_
 rw [hkS]
 exact srt_rest (g₁ := ⟨g₁.α, g₁.h, { g₁.s with heap := ((g₁.s.heap.update a (Obj.mapSeq fun _ => (#[] : Array Value))).push (seqObj "tuple" vs.toArray 0)).push (seqObj "list" #[] 0) }⟩) (kS := g₁.s.heap.objs.size + 1) S Ao hkd
  ⟨I1, X1, f2, Heap.get?_none_of_le (Nat.le_succ_of_le f1), fun b hb => (List.mem_cons.mp hb).elim (fun z => z ▸ F2) fun z => List.mem_singleton.mp z ▸ F, Nat.ne_of_gt (Nat.lt_succ_of_lt ha)⟩ (hkS ▸ Heap.get?_push_size _ rfl) (Heap.get?_push_of_some _ (Heap.get?_push_of_some _ ho1)) hf hr h64 q k
theorem AOk.in2 {A : Around} (Ao : AOk (n + 1) A) : AOk n A.in1.in1 := ⟨Ao.handled, by have := Ao.depth; show A.depth + n < 900; lia, by have := Ao.units; show A.units + 1 + 1 + 20 * n < 9000; lia⟩
theorem sorted_key {l : Addr} {q : Addr} {fa : AV} {vs : List Value} {xs : List AV} (S : SC C.B C.w C.mg C.mb n) (Ao : AOk (n + 1) C.A) (hkd : C.env.scope.kind = .function) (I : Inv C fr g) (hl : g.s.heap.IsList l vs.toArray) (hf : VR g.α fa (.ref q)) (hr : LR (VR g.α) xs vs) (h64 : vs.length < 64)
  (hq : keysG (go n) fa xs g.h fun ks h => Q (.ref h.length) (h ++ [.list ((sortS (ks.zip xs)).map (·.2))])) (k : KE C fr g Q K) : C.wp (call (.builtin "sorted") [.ref l] [(Str.ofString "key", .ref q)]) K g.s := by
 refine call_function_entry_kw kind_sorted plain_sorted entry_sorted (ksk_s1 _ _) ?_
 unfold Builtin.«sorted»
 refine wpAny_bind (m := checkCount "sorted" 1 1 _) (wpAny_pure ?_)
 refine wpAny_bind (collect_list hl ?_ (by rw [sizeLine_eq]; exact Z5 h64 (Nat.le_add_left 64 16777152)))
 refine wpAny_bind (wpAny_newList ?_ (by rw [sizeLine_eq]; exact Z5 h64 (Nat.le_add_left 64 16777152)))
 have hsz : ((g.s.heap.push (seqObj "list" #[] 0)).update g.s.heap.objs.size (Obj.mapSeq (· ++ vs.toArray))).objs.size = g.s.heap.objs.size + 1 := by
  rw [Heap.size_update, size_push']
 have keep : ∀ b o, g.s.heap.get? b = some o → (((g.s.heap.push (seqObj "list" #[] 0)).update g.s.heap.objs.size (Obj.mapSeq (· ++ vs.toArray))).push (seqObj "list" vs.toArray 0)).get? b = some o := fun b o q => by
  have hlt : b < g.s.heap.objs.size := Heap.lt_size q
  rw [Heap.get?_push_ne _ _ _ (by rw [hsz]; exact Nat.ne_of_lt (Nat.lt_succ_of_lt hlt)), Heap.get?_update_ne _ _ _ _ (Nat.ne_of_lt hlt), Heap.get?_push_ne _ _ _ (Nat.ne_of_lt hlt)]
  exact q
 have hfr : g.s.heap.get? (g.s.heap.objs.size + 1) = none := Heap.get?_none_of_le (Nat.le_succ _)
 have F := InvH.free I hfr
 show wpAny _ _ _ _ _ { g.s with heap := ((g.s.heap.push (seqObj "list" #[] 0)).update g.s.heap.objs.size (Obj.mapSeq (· ++ vs.toArray))).push (seqObj "list" vs.toArray 0) }
 rw [hsz]
 refine wpAny_bind (wpAny_holding (wpAny_call_entry_kw slot_list_sort ⟨_, (hsz ▸ Heap.get?_push_size _ rfl), rfl⟩ entry_list_sort ?body (ksk_l1 _ _)))
 show wpAny C.M C.A.in1.in1 (Builtin.«list.sort» ⟨[.ref (g.s.heap.objs.size + 1)], [(Str.ofString "key", .ref q)]⟩) _ _ _
 rw [ksk_t1]
 refine wpAny_mono (srt_tree (C := C.out C.A.in1.in1) (fr := fr) (g := g) (K := K) (Q := Q) (vs := vs) (m := 0) (g₁ := ⟨g.α, g.h, { g.s with heap := ((g.s.heap.push (seqObj "list" #[] 0)).update g.s.heap.objs.size (Obj.mapSeq (· ++ vs.toArray))).push (seqObj "list" vs.toArray 0) }⟩) S Ao.in2 hkd (InvH.around rfl (I.keeps keep)) (ExtX.keeps keep) hfr
  (by rw [size_push', hsz]; exact Nat.le_succ_of_le (Nat.le_succ _)) ⟨F.α, F.L, F.F, F.T, F.B⟩ (hsz ▸ Heap.get?_push_size _ rfl) hf hr h64 hq fun v x g' q hv I X => k v x g' q hv (InvH.aroundB (C := C) (A := C.A.in1.in1) rfl I) X) (fun fin s' z => ⟨.none, z.1, ?_⟩) fun _ _ z => z.elim
 exact wpAny_pure ⟨_, rfl, z.2⟩
theorem okF {e : Expr} {ie : IExpr} (ns : NoStar e) (hi : ∀ env, isTrue e env (eval e env) = (do let v ← eval e env; standAt e.pos; holding [v] (PySem.truthy v))) (h : OkE sc e ie) : Ok sc e ie :=
 ⟨ns, h, fun G q I k => isTrue_plain (h G q I fun v x g' q' hv I' X' => One.casesOn q' fun b e q' => truthy_snd e hv I' fun s' e1 e2 e3 => (k.up X').same I' q' e1 e2 e3) (hi _)⟩
theorem sKey {id : Str} {p kp pos : Pos} {e f : Expr} {a b : IExpr} (hg : IsGlo sc id (.bi "sorted")) (ce : Ok sc e a) (cf : Ok sc f b) : Ok sc (.Call (.Name id p) [e] [⟨some (Str.ofString "key"), f, kp⟩] pos) (.sortKey a b) := okF (fun _ _ => rfl) (fun _ => rfl) fun {n C fr g Q K} G q I k => by
 induction n with
 | zero => exact q.elim
 | succ n =>
 refine MonE.casesOn q fun R q kR => ?_
 have k : KE C fr g R K := fun v x g' q => k v x g' (kR _ _ q)
 show wpAny C.M C.A (do callWith pos (← eval (.Name id p) C.env) [] (backTo pos (starEach [e] C.env)) (backToKw pos (keywordEach [⟨some (Str.ofString "key"), f, kp⟩] C.env))) K FF g.s
 refine wpAny_bind (wpAny_Name (load_glo G.W G.E hg I fun u hu => ?_) hg.2)
 obtain rfl := hu
 refine callWith_of (P := fun _ => True) (by rw [ce.ns]; rfl) (fun h' _ => ⟨.machine, .inr (.inl rfl), Looks.now⟩) ?_
 have main : wpAny C.M C.A (spliced (backTo pos (starEach [e] C.env))) (fun vs s₁ => wpAny C.M C.A (evalAll ((backToKw pos (keywordEach [⟨some (Str.ofString "key"), f, kp⟩] C.env)).map (·.2)))
   (fun ks s₂ => True ∧ wpAny C.M C.A (call (.builtin "sorted") ([] ++ vs) (([Str.ofString "key"]).zip ks)) K FF s₂) FF s₁) FF g.s := by
  refine wpAny_items_cons (ce.ev G.dn q I fun v x g₁ q hv I₁ X₁ => wpAny_items_nil ?_) (ce.ns _ _)
  show wpAny C.M C.A (do let v ← (do let v ← eval f C.env; standAt pos; pure v); return v :: (← holding [v] (pure []))) _ _ _
  refine wpAny_bind (wpAny_bind (cf.ev G.dn q I₁ fun fv y g₂ q hfv I₂ X₂ => wpAny_bind (wpAny_standAt (wpAny_pure (wpAny_bind (wpAny_holding (wpAny_pure (wpAny_pure ⟨trivial, ?_⟩))))))))
  refine SortG.casesOn q fun kf xs ef e l q => ?_
  subst ef
  refine lstAt (P := fun v => wpAny C.M C.A (call (.builtin "sorted") ([] ++ [v]) (([Str.ofString "key"]).zip [fv])) K FF g₂.s) I₂ e (hv.mono X₂.pre) fun l' vs hl hr hlen _ => ?_
  have h64 : vs.toList.length < 64 := hr.length ▸ l
  exact VRef.casesOn (motive := fun fv _ => VR g₂.α (.ref kf) fv → wpAny C.M C.A (call (.builtin "sorted") ([] ++ [Value.ref l']) (([Str.ofString "key"]).zip [fv])) K FF g₂.s) hfv (fun hfa hfv => sorted_key (l := l') (vs := vs.toList) (G.S n (Nat.le_succ n)) G.A (kindE G.E) I₂ (by simpa using hl) hfv hr h64 q (k.up (X₁.trans X₂))) hfv
 rw [ce.ns] at main ⊢
 exact evalArgs_kw rfl main
end
end Mine
namespace Mine
open PySem PySem.W PySem.Calls PyProof.Rows PyProof.V PySem.Spec PySem.SeqAt
noncomputable def numGo : List Str → Nat → Str → Nat
 | [], k, _ => k
 | y :: r, k, s => if y = s then k else numGo r (k + 1) s
noncomputable def num (id : Str) : Option { x : Nat // id = nm x } := if h : id = nm (numGo nmL 0 id) then some ⟨_, h⟩ else none
noncomputable def nums : (l : List Str) → Option { xs : List Nat // l = xs.map nm }
 | [] => some ⟨[], rfl⟩
 | s :: r => (num s).bind fun x => (nums r).map fun xs => ⟨x.1 :: xs.1, by rw [List.map_cons, ← x.2, ← xs.2]⟩
section
variable (sc : Scope)
noncomputable abbrev OE (e : Expr) := Option { ie : IExpr // Ok sc e ie }
noncomputable def isLoc? (id : Str) : Option { x : Nat // IsLoc sc id x } := (num id).bind fun x => if h : sc.names.lookup id = some .local ∧ (id == ("__debug__" : Str)) = false then some ⟨x.1, x.2, h.1, h.2⟩ else none
noncomputable def isCel? (id : Str) : Option { x : Nat // IsCel sc id x } := (num id).bind fun x => if h : (sc.names.lookup id = some .cell ∨ sc.names.lookup id = some .free) ∧ (id == ("__debug__" : Str)) = false ∧ (id == ("__classdict__" : Str)) = false then some ⟨x.1, x.2, h.1, h.2.1, h.2.2⟩ else none
noncomputable def someG : (o : Option GV) → Option { g : GV // o = some g }
 | some g => some ⟨g, rfl⟩
 | none => none
noncomputable def isGlo? (id : Str) : Option { g : GV // IsGlo sc id g } :=
 if h : sc.names.lookup id = some .globalImplicit ∧ (id == ("__debug__" : Str)) = false then (someG (glob id)).map fun g => ⟨g.1, h.1, h.2, g.2⟩ else none
noncomputable def eqG : (g g' : GV) → Option (PLift (g = g'))
 | .bi a, .bi b => if h : a = b then some ⟨congrArg _ h⟩ else none
 | .ty a, .ty b => if h : a = b then some ⟨congrArg _ h⟩ else none
 | _, _ => none
noncomputable def isG (id : Str) (g : GV) : Option (PLift (IsGlo sc id g)) := (isGlo? sc id).bind fun x => (eqG x.1 g).map fun (h : PLift (x.1 = g)) => ⟨h.down ▸ x.2⟩
noncomputable def trG (id : Str) (pos : Pos) : (g : GV) → IsGlo sc id g → OE sc (.Name id pos)
 | .fn k, h => some ⟨.fn k, sE_fn h⟩
 | .cls b, h => some ⟨.cls b, sE_cls h⟩
 | .int i, h => some ⟨.gint 0 i, sE_gint h⟩
 | _, _ => none
noncomputable def trName (id : Str) (pos : Pos) : OE sc (.Name id pos) :=
 ((isLoc? sc id).map fun x => ⟨.loc x.1, sE_loc x.2⟩).or <| ((isCel? sc id).map fun x => ⟨.cel x.1, sE_cel x.2⟩).or <| (isGlo? sc id).bind fun g => trG sc id pos g.1 g.2
noncomputable abbrev OV (e : Expr) := Option { v : IVar // OkV sc e v }
noncomputable def trVar : (e : Expr) → OV sc e
 | .Name id pos => ((isLoc? sc id).map fun x => ⟨.loc x.1, sV_loc x.2⟩).or <| (isCel? sc id).bind fun x => if h : sc.names.lookup id = some .cell then some ⟨.cel x.1, sV_cel x.2 h⟩ else none
 | _ => none
noncomputable def trL {α β : Type} {R : α → β → Prop} (f : (a : α) → Option { b : β // R a b }) : (l : List α) → Option { m : List β // LR R l m }
 | [] => some ⟨[], .nil⟩
 | a :: l => (f a).bind fun b => (trL f l).map fun m => ⟨b.1 :: m.1, .cons b.2 m.2⟩
noncomputable def trPat : (e : Expr) → Option { p : IPat // OkP sc e p }
 | .Tuple es k pos => (trL (trVar sc) es).map fun vs => ⟨.tup vs.1, sP_tup vs.2⟩
 | e => (trVar sc e).map fun v => ⟨.one v.1, sP_one v.2⟩
end
noncomputable def trOp : (o : Operator) → Option { b : BOp // opOf b = o }
 | .Add => some ⟨.add, rfl⟩ | .Sub => some ⟨.sub, rfl⟩ | .Mult => some ⟨.mul, rfl⟩ | .FloorDiv => some ⟨.fdiv, rfl⟩ | .Mod => some ⟨.mod, rfl⟩ | _ => none
noncomputable def trCop : (o : CmpOp) → { c : COp // copOf c = o }
 | .Eq => ⟨.eq, rfl⟩ | .NotEq => ⟨.ne, rfl⟩ | .Lt => ⟨.lt, rfl⟩ | .LtE => ⟨.le, rfl⟩ | .Gt => ⟨.gt, rfl⟩ | .GtE => ⟨.ge, rfl⟩ | .Is => ⟨.is, rfl⟩ | .IsNot => ⟨.isn, rfl⟩ | .In => ⟨.mem, rfl⟩ | .NotIn => ⟨.nmem, rfl⟩
noncomputable def asName : (e : Expr) → Option { q : Str × Pos // e = .Name q.1 q.2 }
 | .Name i p => some ⟨(i, p), rfl⟩
 | _ => none
noncomputable def base? (e : Expr) : Option (PLift (PlainBase e)) := by
 cases e
 case Call f args _ _ => cases args with
  | nil => exact none
  | cons _ _ => exact (asName f).map fun q => ⟨fun _ _ _ => by rw [q.2]; rfl⟩
 all_goals exact some ⟨fun _ _ _ => rfl⟩
noncomputable def idx? (e : Expr) : Option (PLift (PlainIdx e)) := by
 cases e
 case Slice => exact none
 all_goals exact some ⟨fun _ _ => rfl⟩
noncomputable def fold? (e : Expr) : Option (PLift (∀ env v, foldedSetIterable e env v = pure v)) := by
 cases e
 case Set => exact none
 all_goals exact some ⟨fun _ _ => rfl⟩
noncomputable def comp? (e : Expr) : Option (PLift (∀ t l env, swapsWith e t l env = pure false)) := by
 cases e
 case ListComp => exact none
 case SetComp => exact none
 case DictComp => exact none
 all_goals exact some ⟨fun _ _ _ => rfl⟩
end Mine
namespace Mine
open PySem PySem.W PySem.Calls PyProof.Rows PyProof.V PySem.Spec PySem.SeqAt
noncomputable abbrev RE := (sc : Scope) → (e : Expr) → OE sc e
section
variable (rec : RE) (sc : Scope)
noncomputable def trOpt : (l : Option Expr) → Option { b : IExpr // OkO sc l b }
 | none => some ⟨.none, okO_none⟩
 | some e => (rec sc e).map fun a => ⟨a.1, okO_some a.2⟩
noncomputable def star? (e : Expr) : Option { a : IExpr // CA sc [e] [] [a] } := match e with
 | .Starred e p => (rec sc e).map fun a => ⟨a.1, .star a.2⟩
 | _ => none
noncomputable def trA : (es : List Expr) → Option { p : List IExpr × List IExpr // CA sc es p.1 p.2 }
 | [] => some ⟨([], []), .nil⟩
 | e :: es => ((rec sc e).bind fun a => (trA es).map fun as => ⟨(a.1 :: as.1.1, as.1.2), .cons a.2 as.2⟩).or <| match es with
  | [] => (star? rec sc e).map fun a => ⟨([], [a.1]), a.2⟩
  | _ => none
noncomputable def trKw : (k : Keyword) → Option { p : Nat × IExpr // KwR sc k p }
 | ⟨some id, e, q⟩ => (num id).bind fun x => (rec sc e).map fun a => ⟨(x.1, a.1), e, q, congrArg (fun i => Keyword.mk (some i) e q) x.2, a.2⟩
 | _ => none
noncomputable def trSrcC (pos : Pos) (f : Expr) : (args : List Expr) → Option { s : ISrc // OkS sc (.Call f args [] pos) s }
 | [] => match f with
  | .Attribute e name apos => if h : name = Str.ofString "values" ∧ apos.endLine = pos.line then (base? e).bind fun hb => (rec sc e).map fun a => ⟨.values a.1, h.1 ▸ sS_values hb.1 h.2 a.2⟩ else none
  | _ => none
 | [e] => (asName f).bind fun q => (isG sc q.1.1 (.ty "range")).bind fun hg => (rec sc e).map fun a => ⟨.range1 a.1, q.2 ▸ sS_range1 hg.1 a.2⟩
 | [e, e'] => (asName f).bind fun q => (rec sc e).bind fun a => (rec sc e').bind fun b => ((isG sc q.1.1 (.ty "range")).map fun hg => ⟨.range2 a.1 b.1, q.2 ▸ sS_range2 hg.1 a.2 b.2⟩).or <| (isG sc q.1.1 (.ty "zip")).map fun hg => ⟨.zip a.1 b.1, q.2 ▸ sS_zip hg.1 a.2 b.2⟩
 | _ => none
noncomputable def trSrc1 : (e : Expr) → Option { s : ISrc // OkS sc e s }
 | .Call f args [] pos => trSrcC rec sc pos f args
 | _ => none
noncomputable def trSrc (e : Expr) : Option { s : ISrc // OkS sc e s } := (trSrc1 rec sc e).or ((rec sc e).map fun a => ⟨.seq a.1, sS_seq a.2⟩)
noncomputable def trGen : (c : Comprehension) → Option { g : IGen // GenOk sc c g }
 | ⟨tg, it, ifs, 0⟩ => (fold? it).bind fun h => (trSrc rec sc it).bind fun s => (trPat sc tg).bind fun p => (trL (rec sc) ifs).map fun cs => ⟨.mk p.1 s.1 cs.1, .mk h.1 s.2 p.2 cs.2⟩
 | _ => none
noncomputable def compOk (scope : Scope) : Option { p : List Nat × List Nat // CompOk sc scope p.1 p.2 } := (nums (ofKind .cell scope.names)).bind fun own => (nums (ofKind .free scope.names)).bind fun free =>
 if h : scope.kind = .function ∧ (scope.names.all fun p => scope.names.lookup p.1 == some p.2) = true ∧ own.1.Nodup ∧ (∀ n ∈ ofKind .free scope.names, sc.names.lookup n = some .cell ∨ sc.names.lookup n = some .free) ∧ (lamSc (relab scope sc) = true → lamSc sc = true) then
  some ⟨(own.1, free.1), h.1, h.2.1, own.2, free.2, h.2.2.1, h.2.2.2.1, h.2.2.2.2⟩ else none
inductive CompR (scope : Scope) (elt : Expr) : List Comprehension → IExpr → Prop
 | mk {tg it : Expr} {ifs : List Expr} {rest : List Comprehension} {e : IExpr} {pat : IPat} {src : ISrc} {cs : List IExpr} {gs : List IGen} {own free : List Nat} (H : CompOk sc scope own free) (hs : ∀ env v, foldedSetIterable it env v = pure v) (h : OkS sc it src) (hp : OkP (relab scope sc) tg pat) (ci : LR (Ok (relab scope sc)) ifs cs) (cg : LR (GenOk (relab scope sc)) rest gs) (he : Ok (relab scope sc) elt e) :
  CompR scope elt (⟨tg, it, ifs, 0⟩ :: rest) (.comp e (.mk pat src cs) gs own free)
noncomputable def trComp (scope : Scope) (elt : Expr) : (gens : List Comprehension) → Option { ie : IExpr // CompR sc scope elt gens ie }
 | ⟨tg, it, ifs, 0⟩ :: rest => (compOk sc scope).bind fun H => (fold? it).bind fun hs => (trSrc rec sc it).bind fun s => (trPat (relab scope sc) tg).bind fun p => (trL (rec (relab scope sc)) ifs).bind fun cs => (trL (trGen rec (relab scope sc)) rest).bind fun gs => (rec (relab scope sc) elt).map fun e =>
   ⟨_, .mk H.2 hs.1 s.2 p.2 cs.2 gs.2 e.2⟩
 | _ => none
variable {sc : Scope} {scope : Scope} {elt : Expr} {gens : List Comprehension} {ie : IExpr} {pos : Pos}
theorem CompR.ok (h : CompR sc scope elt gens ie) : Ok sc (.ListComp elt gens scope pos) ie := CompR.casesOn h fun H hs h hp ci cg he => sE_comp H hs h hp ci cg he
theorem CompR.asg {id : Str} {p p' : Pos} {iv : IVar} (h : CompR sc scope elt gens ie) (hv : OkV sc (.Name id p') iv) : OkSt sc (.Assign [.Name id p'] (.ListComp elt gens scope p) pos) (.asg [.var iv] ie) := CompR.casesOn h fun H hs h hp ci cg he => sS_asgC hv H hs h hp ci cg he
end
noncomputable def shB : Nat → Nat → Nat → IExpr
 | 0, c, l => .idx (.cel c) (.loc l)
 | 1, c, l => .list [.idx (.cel c) (.loc l)]
 | _, c, l => .meth (.cel c) 5 [.loc l] []
structure LamE where
 k : Nat
 sh : Nat
 c : Nat
 l : Nat
 h : prog.fns[k]? = some ⟨[l], [], [], none, [(1, [])], [], [c], false, [.ret (shB sh c l)]⟩
 bl : BindL (nm l)
end Mine
namespace Mine
open PySem PySem.W PySem.Calls PyProof.Rows PyProof.V PySem.Spec PySem.SeqAt
theorem bl60 : BindL (nm 60) := fun _ _ _ _ _ _ _ _ _ _ => by kernel_rfl
noncomputable def lamE (ln : Nat) : Option LamE := if ln = 227 then some ⟨16, 1, 90, 60, rfl, bl60⟩ else if ln = 231 then some ⟨17, 0, 90, 60, rfl, bl60⟩ else none
section
variable (sc : Scope)
noncomputable def ckL0 (c l : Nat) : (e : Expr) → Option (PLift (CL sc e (shB 0 c l)))
 | .Subscript (.Name i p) (.Name j p') q => (isCel? sc i).bind fun x => (isLoc? sc j).bind fun y => if h : x.1 = c ∧ y.1 = l then some ⟨.idx (h.1 ▸ x.2) (h.2 ▸ y.2)⟩ else none
 | _ => none
noncomputable def ckL1 (c l : Nat) : (e : Expr) → Option (PLift (CL sc e (shB 1 c l)))
 | .List [.Subscript (.Name i p) (.Name j p') q] q' => (isCel? sc i).bind fun x => (isLoc? sc j).bind fun y => if h : x.1 = c ∧ y.1 = l then some ⟨.lst (h.1 ▸ x.2) (h.2 ▸ y.2)⟩ else none
 | _ => none
noncomputable def ckL (c l : Nat) (e : Expr) : (sh : Nat) → Option (PLift (CL sc e (shB sh c l)))
 | 0 => ckL0 sc c l e
 | 1 => ckL1 sc c l e
 | _ + 2 => none
noncomputable def args1 : (ar : Arguments) → Option { q : Str × Pos // ar = ⟨[], [⟨q.1, none, q.2⟩], none, [], [], none, []⟩ }
 | ⟨[], [⟨a, none, p⟩], none, [], [], none, []⟩ => some ⟨(a, p), rfl⟩
 | _ => none
noncomputable def trLam (scope : Scope) (ar : Arguments) (body : Expr) (pos : Pos) : OE sc (.Lambda ar body scope pos) := (lamE pos.line).bind fun E => (args1 ar).bind fun a => (ckL scope E.c E.l body E.sh).bind fun cl =>
 if h : (lamSc sc = true ∧ (∀ n ∈ ofKind .free scope.names, sc.names.lookup n = some .cell ∨ sc.names.lookup n = some .free)) ∧ ofKind .free scope.names = [E.c].map nm ∧ scope.kind = .function ∧ scope.isCoroutine = false ∧ scope.isGenerator = false ∧ (∀ x ∈ scope.names, x.2 ≠ .cell) ∧ lamSc scope = false ∧ nm E.l = a.1.1 ∧ scope.names.lookup (nm E.l) = some .local then
  some ⟨.lam E.k, sE_lam h.1.1 (.mk (p := a.1.2) cl.1 E.h h.2.1 h.2.2.1 h.2.2.2.1 h.2.2.2.2.1 h.2.2.2.2.2.1 h.2.2.2.2.2.2.1 (by rw [h.2.2.2.2.2.2.2.1]; exact a.2) h.2.2.2.2.2.2.2.2 E.bl) h.1.2⟩ else none
noncomputable def prims : List Pr := [.len, .list, .tuple, .bool, .abs, .sum, .max, .min, .sorted, .set0, .iter]
noncomputable def isPrim (id : Str) : List Pr → Option { p : Pr // IsGlo sc id (primG p) ∧ p ≠ .listRange }
 | [] => none
 | p :: ps => match p with
  | .listRange => isPrim id ps
  | .len => ((isG sc id (primG .len)).map fun h => ⟨.len, h.1, nofun⟩).or (isPrim id ps)
  | .list => ((isG sc id (primG .list)).map fun h => ⟨.list, h.1, nofun⟩).or (isPrim id ps)
  | .tuple => ((isG sc id (primG .tuple)).map fun h => ⟨.tuple, h.1, nofun⟩).or (isPrim id ps)
  | .bool => ((isG sc id (primG .bool)).map fun h => ⟨.bool, h.1, nofun⟩).or (isPrim id ps)
  | .max => ((isG sc id (primG .max)).map fun h => ⟨.max, h.1, nofun⟩).or (isPrim id ps)
  | .min => ((isG sc id (primG .min)).map fun h => ⟨.min, h.1, nofun⟩).or (isPrim id ps)
  | .set0 => ((isG sc id (primG .set0)).map fun h => ⟨.set0, h.1, nofun⟩).or (isPrim id ps)
  | .iter => ((isG sc id (primG .iter)).map fun h => ⟨.iter, h.1, nofun⟩).or (isPrim id ps)
  | .abs => ((isG sc id (primG .abs)).map fun h => ⟨.abs, h.1, nofun⟩).or (isPrim id ps)
  | .sum => ((isG sc id (primG .sum)).map fun h => ⟨.sum, h.1, nofun⟩).or (isPrim id ps)
  | .sorted => ((isG sc id (primG .sorted)).map fun h => ⟨.sorted, h.1, nofun⟩).or (isPrim id ps)
  | .min2 => ((isG sc id (primG .min2)).map fun h => ⟨.min2, h.1, nofun⟩).or (isPrim id ps)
variable (rec : RE)
noncomputable def listRange? (pos : Pos) (id : Str) (p : Pos) : (args : List Expr) → OE sc (.Call (.Name id p) args [] pos)
 | [.Call (.Name id' p') [e] [] pos'] => (isG sc id (.ty "list")).bind fun hg => (isG sc id' (.ty "range")).bind fun hg' => (rec sc e).map fun a => ⟨.prim .listRange [a.1], sE_listRange hg.1 hg'.1 a.2⟩
 | _ => none
noncomputable def sKey? (pos : Pos) (id : Str) (p : Pos) : (args : List Expr) → (kws : List Keyword) → OE sc (.Call (.Name id p) args kws pos)
 | [e], [⟨some kn, f, kp⟩] => if h : Str.ofString "key" = kn then (isG sc id (.bi "sorted")).bind fun hg => (rec sc e).bind fun a => (rec sc f).map fun b => ⟨.sortKey a.1 b.1, h ▸ sKey hg.1 a.2 b.2⟩ else none
 | _, _ => none
noncomputable def prim? (pos : Pos) (id : Str) (p : Pos) (args : List Expr) : (kws : List Keyword) → OE sc (.Call (.Name id p) args kws pos)
 | [] => (listRange? sc rec pos id p args).or <| (isPrim sc id (match args with | [_, _] => [.min2] | _ => prims)).bind fun pr => (trL (rec sc) args).map fun as => ⟨.prim pr.1 as.1, sE_prim pr.2.1 pr.2.2 as.2⟩
 | _ => none
noncomputable def trCall (pos : Pos) (args : List Expr) (kws : List Keyword) : (f : Expr) → OE sc (.Call f args kws pos)
 | .Attribute e name apos => match kws with
  | [] => (num name).bind fun m => (base? e).bind fun hb => if h : args.length ≤ 20 ∧ apos.endLine = pos.line then (rec sc e).bind fun o => (trA rec sc args).map fun as => ⟨.meth o.1 m.1 as.1.1 as.1.2, sE_meth m.2 hb.1 h.1 h.2 o.2 as.2⟩ else none
  | _ => none
 | .Name id p => (prim? sc rec pos id p args kws).or <| (sKey? sc rec pos id p args kws).or <| (trName sc id p).bind fun f => (trL (rec sc) args).bind fun as => (trL (trKw rec sc) kws).map fun ks => ⟨.call f.1 as.1 [] (ks.1.map (·.1)) (ks.1.map (·.2)), sE_call f.2 as.2 ks.2⟩
 | _ => none
noncomputable def trBool (pos : Pos) (x y : Expr) : (o : BoolOp) → OE sc (.BoolOp o [x, y] pos)
 | .And => (rec sc x).bind fun a => (rec sc y).map fun b => ⟨.and a.1 b.1, sE_and a.2 b.2⟩
 | .Or => (rec sc x).bind fun a => (rec sc y).map fun b => ⟨.or a.1 b.1, sE_or a.2 b.2⟩
noncomputable def trUn (pos : Pos) (e : Expr) : (o : UnaryOp) → OE sc (.UnaryOp o e pos)
 | .USub => (rec sc e).map fun a => ⟨.neg a.1, sE_neg a.2⟩
 | .Not => (rec sc e).map fun a => ⟨.not a.1, sE_not a.2⟩
 | _ => none
noncomputable def trConst (m : Nat) (pos : Pos) : (c : Const) → OE sc (.Constant c m pos)
 | .none => some ⟨.none, sE_none⟩
 | .bool b => some ⟨.bool b, sE_bool⟩
 | .int i => some ⟨.int i, sE_int⟩
 | _ => none
noncomputable def trSub (pos : Pos) (e : Expr) : (s : Expr) → OE sc (.Subscript e s pos)
 | .Slice l u s p => (rec sc e).bind fun o => (trOpt rec sc l).bind fun l => (trOpt rec sc u).bind fun u => (trOpt rec sc s).map fun s => ⟨.slice o.1 l.1 u.1 s.1, sE_slice o.2 l.2 u.2 s.2⟩
 | s => (idx? s).bind fun h => (rec sc e).bind fun o => (rec sc s).map fun i => ⟨.idx o.1 i.1, sE_idx h.1 o.2 i.2⟩
end
theorem sE_bin' {sc : Scope} {o : Operator} {op : BOp} {x y : Expr} {a b : IExpr} {pos : Pos} (h : opOf op = o) (ca : Ok sc x a) (cb : Ok sc y b) : Ok sc (.BinOp x o y pos) (.bin op a b) := by subst h; exact sE_bin ca cb
theorem sE_cmp' {sc : Scope} {o : CmpOp} {op : COp} {x y : Expr} {a b : IExpr} {pos : Pos} (h : copOf op = o) (hb : behindInMarks o y = false) (ca : Ok sc x a) (cb : Ok sc y b) : Ok sc (.Compare x [o] [y] pos) (.cmp op a b) := by subst h; exact sE_cmp hb ca cb
noncomputable def trE : Nat → RE
 | 0, _, _ => none
 | n + 1, sc, e => match e with
  | .Constant c m pos => trConst sc m pos c
  | .Name id pos => trName sc id pos
  | .BinOp l o r pos => (trOp o).bind fun op => (trE n sc l).bind fun a => (trE n sc r).map fun b => ⟨.bin op.1 a.1 b.1, sE_bin' op.2 a.2 b.2⟩
  | .UnaryOp o e pos => trUn sc (trE n) pos e o
  | .Compare l [o] [r] pos => if h : behindInMarks o r = false then (trE n sc l).bind fun a => (trE n sc r).map fun b => ⟨.cmp (trCop o).1 a.1 b.1, sE_cmp' (trCop o).2 h a.2 b.2⟩ else none
  | .BoolOp o [x, y] pos => trBool sc (trE n) pos x y o
  | .IfExp c x y pos => (trE n sc c).bind fun c => (trE n sc x).bind fun a => (trE n sc y).map fun b => ⟨.ite c.1 a.1 b.1, sE_ite c.2 a.2 b.2⟩
  | .Attribute e name pos => (num name).bind fun x => (base? e).bind fun hb => if h : x.1 ∈ attrs then (trE n sc e).map fun a => ⟨.attr a.1 x.1, sE_attr x.2 h hb.1 a.2⟩ else none
  | .Subscript e s pos => trSub sc (trE n) pos e s
  | .List es pos => if h : es.length ≤ 1000 then (trL (trE n sc) es).map fun as => ⟨.list as.1, sE_list h as.2⟩ else none
  | .Tuple es k pos => if h : es.length ≤ 1000 then (trL (trE n sc) es).map fun as => ⟨.tuple as.1, sE_tuple h as.2⟩ else none
  | .Dict [] [] pos => some ⟨.dict0, sE_dict0⟩
  | .ListComp elt gens scope pos => (trComp (trE n) sc scope elt gens).map fun c => ⟨c.1, c.2.ok⟩
  | .Lambda args body scope pos => trLam sc scope args body pos
  | .Call f args kws pos => trCall sc (trE n) pos args kws f
  | _ => none
end Mine
namespace Mine
open PySem PySem.W PySem.Calls PyProof.Rows PyProof.V PySem.Spec PySem.SeqAt
section
variable (sc : Scope)
structure TgOk (e : Expr) (i : ITgt) : Prop where
 t : OkTg sc e i
 n : ∀ r v env, swappedStores (e :: r) v env = pure none
noncomputable def trTgt : (e : Expr) → Option { i : ITgt // TgOk sc e i }
 | .Attribute e name pos => (num name).bind fun x => if h : x.1 ∈ attrs then (trE 30 sc e).map fun a => ⟨.attr a.1 x.1, sT_attr x.2 h a.2, fun r _ _ => by cases r <;> rfl⟩ else none
 | .Subscript e s pos => (trE 30 sc e).bind fun o => (trE 30 sc s).map fun i => ⟨.idx o.1 i.1, sT_idx o.2 i.2, fun r _ _ => by cases r <;> rfl⟩
 | .Name id pos => (trVar sc (.Name id pos)).map fun v => ⟨.var v.1, sT_var v.2, fun r _ _ => by cases r <;> rfl⟩
 | _ => none
noncomputable abbrev OS (s : Stmt) := Option { is : IStmt // OkSt sc s is }
noncomputable abbrev SS (s : Stmt) := { is : IStmt // OkSt sc s is }
noncomputable def orFail {s : Stmt} (o : OS sc s) : SS sc s := o.getD ⟨.fail, sS_fail⟩
theorem sS_asg' {ts : List Expr} {its : List ITgt} {e : Expr} {a : IExpr} {pos : Pos} (r : LR (TgOk sc) ts its) (hc : ∀ t l env, swapsWith e t l env = pure false) (he : Ok sc e a) : OkSt sc (.Assign ts e pos) (.asg its a) :=
 sS_asg (r.mono fun _ _ z => z.t) he (fun env => by
  cases r with
  | nil => rfl
  | cons _ r => cases r with
   | nil => exact hc _ _ _
   | cons _ _ => rfl) (fun env => by
  cases r with
  | nil => cases e <;> rfl
  | cons h _ => exact h.n _ _ _)
theorem swA {o : Expr} {name : Str} {p : Pos} {l : Nat} {env : Env} (v : Expr) : swapsWith v (some (.Attribute o name p)) l env = pure false := by cases v <;> rfl
noncomputable def trAsgC (pos : Pos) : (t : Expr) → (e : Expr) → OS sc (.Assign [t] e pos)
 | .Name id p', .ListComp elt gens scope p => (trVar sc (.Name id p')).bind fun v => (trComp (trE 30) sc scope elt gens).map fun c => ⟨.asg [.var v.1] c.1, c.2.asg v.2⟩
 | .Attribute o name p, e => (trTgt sc (.Attribute o name p)).bind fun a => (trE 30 sc e).map fun b => ⟨.asg [a.1] b.1, sS_asg (.one a.2.t) b.2 (fun env => @swA o name p pos.line env e) (fun env => a.2.n _ _ _)⟩
 | _, _ => none
noncomputable def trAsg1 (pos : Pos) (e : Expr) : (ts : List Expr) → OS sc (.Assign ts e pos)
 | [t] => trAsgC sc pos t e
 | _ => none
theorem sS_aug' {op : BOp} {o : Operator} {e : Expr} {a : IExpr} {id : Str} {p pos : Pos} {x : Nat} (ho : opOf op = o) (hl : IsLoc sc id x) (h : Ok sc e a) : OkSt sc (.AugAssign (.Name id p) o e pos) (.aug (.loc x) op a) := by subst ho; exact sS_aug hl h
theorem sS_augAttr' {op : BOp} {o : Operator} {e e' : Expr} {a b : IExpr} {name : Str} {p pos : Pos} {x : Nat} (ho : opOf op = o) (hn : name = nm x) (hx : x ∈ attrs) (h : Ok sc e b) (h' : Ok sc e' a) : OkSt sc (.AugAssign (.Attribute e name p) o e' pos) (.augAttr b x op a) := by subst ho; exact sS_augAttr hn hx h h'
noncomputable def trAug (o : Operator) (e' : Expr) (pos : Pos) : (e : Expr) → OS sc (.AugAssign e o e' pos)
 | .Name id p => (isLoc? sc id).bind fun x => (trOp o).bind fun op => (trE 30 sc e').map fun a => ⟨.aug (.loc x.1) op.1 a.1, sS_aug' sc op.2 x.2 a.2⟩
 | .Attribute e name p => (num name).bind fun x => (trOp o).bind fun op => if h : x.1 ∈ attrs then (trE 30 sc e).bind fun b => (trE 30 sc e').map fun a => ⟨.augAttr b.1 x.1 op.1 a.1, sS_augAttr' sc op.2 x.2 h b.2 a.2⟩ else none
 | _ => none
noncomputable def trTryH (ix ii : Str) (px p1 p2 p3 p4 p5 p6 p7 p20 : Pos) (k : Nat) : (hs : List ExceptHandler) → OS sc (.Try [.Assign [.Name ix px] (.Call (.Subscript (.Name ii p1) (.UnaryOp .USub (.Constant (.int 1) k p2) p3) p4) [] [] p5) p6, .Break p7] hs [] [] p20)
 | [.ExceptHandler (some (.Name ig p8)) none [.Delete [.Subscript (.Name id p9) (.Call (.Attribute (.Name is p10) n1 p11) [] [] p12) p13] p14, .Expr (.Call (.Attribute (.Name ii' p15) n2 p16) [] [] p17) p18] p19] => (isG sc ig (.ty "StopIteration")).bind fun hg => (isLoc? sc ix).bind fun x => (isLoc? sc ii).bind fun i => (isLoc? sc id).bind fun d => (isLoc? sc is).bind fun st =>
   if h : ii' = ii ∧ n1 = nm 2 ∧ n2 = nm 2 ∧ p11.endLine = p12.line ∧ p16.endLine = p17.line then some ⟨.tryNext x.1 i.1 d.1 st.1, by obtain ⟨rfl, rfl, rfl, h1, h2⟩ := h; exact sTry x.2 i.2 d.2 st.2 hg.1 h1 h2⟩ else none
 | _ => none
noncomputable def trTry (hs : List ExceptHandler) (p20 : Pos) : (b : List Stmt) → OS sc (.Try b hs [] [] p20)
 | [.Assign [.Name ix px] (.Call (.Subscript (.Name ii p1) (.UnaryOp .USub (.Constant (.int 1) k p2) p3) p4) [] [] p5) p6, .Break p7] => trTryH sc ix ii px p1 p2 p3 p4 p5 p6 p7 p20 k hs
 | _ => none
noncomputable def trBlk (rec : (sc : Scope) → (s : Stmt) → SS sc s) : (b : List Stmt) → { ib : List IStmt // LR (OkSt sc) b ib }
 | [] => ⟨[], .nil⟩
 | s :: ss => ⟨(rec sc s).1 :: (trBlk rec ss).1, .cons (rec sc s).2 (trBlk rec ss).2⟩
variable (rec : (sc : Scope) → (s : Stmt) → SS sc s)
noncomputable def trIf (b : List Stmt) (pos : Pos) : (c : Expr) → OS sc (.If c b [] pos)
 | .Compare (.NamedExpr (.Name id p) e p') [.Is] [.Constant .none k p''] q => (isLoc? sc id).bind fun x => (trE 30 sc e).map fun a => ⟨.iteW x.1 a.1 (trBlk sc rec b).1, sS_iteW x.2 a.2 (okB (trBlk sc rec b).2)⟩
 | _ => none
noncomputable def trIf1 (b : List Stmt) (pos : Pos) (c : Expr) : (o : List Stmt) → OS sc (.If c b o pos)
 | [] => trIf sc rec b pos c
 | _ => none
noncomputable def trDel (pos : Pos) : (t : List Expr) → OS sc (.Delete t pos)
 | [.Subscript e s p] => (trE 30 sc e).bind fun o => (trE 30 sc s).map fun i => ⟨.del o.1 i.1, sS_del o.2 i.2⟩
 | _ => none
end
noncomputable def trS : Nat → (sc : Scope) → (s : Stmt) → SS sc s
 | 0, sc, _ => ⟨.fail, sS_fail⟩
 | n + 1, sc, s => orFail sc (match s with
  | .Assign ts e pos => (trAsg1 sc pos e ts).or <| (comp? e).bind fun hc => (trL (trTgt sc) ts).bind fun a => (trE 30 sc e).map fun b => ⟨.asg a.1 b.1, sS_asg' sc a.2 hc.1 b.2⟩
  | .AugAssign e o e' pos => trAug sc o e' pos e
  | .Expr e pos => (comp? e).bind fun hc => (trE 30 sc e).map fun a => ⟨.expr a.1, sS_expr a.2 (hc.1 _ _)⟩
  | .Return (some e) pos => (trE 30 sc e).map fun a => ⟨.ret a.1, sS_ret a.2⟩
  | .Break pos => some ⟨.brk, sS_brk⟩
  | .Continue pos => some ⟨.cont, sS_cont⟩
  | .If c b o pos => (trIf1 sc (trS n) b pos c o).or <| (trE 30 sc c).map fun c => ⟨.ite c.1 (trBlk sc (trS n) b).1 (trBlk sc (trS n) o).1, sS_ite c.2 (okB (trBlk sc (trS n) b).2) (okB (trBlk sc (trS n) o).2)⟩
  | .While c b o pos => (trE 30 sc c).map fun c => ⟨.while c.1 (trBlk sc (trS n) b).1 (trBlk sc (trS n) o).1, sS_while c.2 (okB (trBlk sc (trS n) b).2) (okB (trBlk sc (trS n) o).2)⟩
  | .For tg it b [] pos => (fold? it).bind fun h => (trPat sc tg).bind fun p => (trSrc (trE 30) sc it).map fun s => ⟨.for p.1 s.1 (trBlk sc (trS n) b).1, sS_for h.1 p.2 s.2 (okB (trBlk sc (trS n) b).2)⟩
  | .Delete t pos => trDel sc pos t
  | .Try b hs [] [] pos => trTry sc hs pos b
  | _ => none)
noncomputable def trB (sc : Scope) (b : List Stmt) : List IStmt := (trBlk sc (trS 20) b).1
theorem trB_ok {sc : Scope} {b : List Stmt} {ib : List IStmt} (h : trB sc b = ib) : OkB sc b ib := h ▸ okB (trBlk sc (trS 20) b).2
end Mine
namespace Mine
open PySem PySem.W PySem.Calls PyProof.Rows PyProof.V PySem.Spec PySem.SeqAt
section
variable {B : Heap} {f : IFn} {fd : FuncData} {P : Params}
theorem bind_var {fd : FuncData} {vs rest : List Value} {b : Value → List (Str × Value)} {M : Model} {A : Around} {E : Value → Shared → Prop} {s : Shared} {Q : List (Str × Value) → Shared → Prop}
  (H : bindArgs fd ⟨vs, []⟩ = (newTuple rest >>= fun a => pure (b a))) (hl : rest.length ≤ 200000)
  (q : Q (b (.ref s.heap.objs.size)) { s with heap := s.heap.push { cls := .type "tuple", data := .seq rest.toArray } }) :
  wpAny M A (bindArgs fd ⟨vs, []⟩) Q E s := by
 rw [H]
 exact wpAny_bind (wpAny_newTuple (wpAny_pure q) (by rw [sizeLine_eq]; exact Z14 hl (Nat.le_add_left 200000 16577216)))
theorem rest_tuple {C : Cx} {fr : Fm} {g : Sg} {xs : List AV} {vs : List Value} {P : Prop} (I : Inv C fr g) (hr : LR (VR g.α) xs vs) (hz : xs.length ≤ 100000)
  (k : VR (g.α ++ [g.s.heap.objs.size]) (.ref g.h.length) (.ref g.s.heap.objs.size) → Inv C fr ⟨g.α ++ [g.s.heap.objs.size], g.h ++ [.tuple xs], { g.s with heap := g.s.heap.push { cls := .type "tuple", data := .seq vs.toArray } }⟩ →
   Ext C g ⟨g.α ++ [g.s.heap.objs.size], g.h ++ [.tuple xs], { g.s with heap := g.s.heap.push { cls := .type "tuple", data := .seq vs.toArray } }⟩ → P) : P :=
 have kp : ∀ b o, g.s.heap.get? b = some o → (g.s.heap.push { cls := .type "tuple", data := .seq vs.toArray }).get? b = some o := fun b o e => Heap.get?_push_of_some _ e
 k (.mk (snoc_at I.sim.len)) (InvH.adopt (InvH.keeps I kp) (InvH.free I (fresh_size _)) (Heap.get?_push_size _ rfl) rfl (OTup.mk (VR.monoL (List.prefix_append _ _) hr)) (I.sim.wf.new (newTup (le2 hz))))
  (ExtX.adopt (g' := ⟨g.α, g.h, { g.s with heap := g.s.heap.push { cls := .type "tuple", data := .seq vs.toArray } }⟩) (ExtX.keeps kp) (fresh_size _))
inductive VarB (f : IFn) (v : Nat) (as : List AV) (kw : List (Nat × AV)) (h : Hp) (b : List (Nat × AV)) (h1 : Hp) : Prop | mk (l : f.params.length ≤ as.length) (l' : as.length ≤ 100000) (k : kw = []) (eb : b = f.params.zip as ++ [(v, .ref h.length)]) (eh : h1 = h ++ [.tuple (as.drop f.params.length)]) : VarB f v as kw h b h1
theorem abind_var {v : Nat} {as : List AV} {kw : List (Nat × AV)} {h h1 : Hp} {b : List (Nat × AV)} (hv : f.var = some v) (e : abind f as kw h = some (b, h1)) : VarB f v as kw h b h1 := by
 unfold abind at e
 rw [hv] at e
 dsimp only at e
 split at e
 ·next hc => cases e; exact ⟨hc.1, hc.2.1, List.length_eq_zero_iff.mp hc.2.2, rfl, rfl⟩
 ·cases e
theorem fb_var1 {x v : Nat} (hf : f.params = [x]) (hv : f.var = some v) (H : ∀ v1 rest, bindArgs fd ⟨v1 :: rest, []⟩ = (newTuple rest >>= fun a => pure [(nm x, v1), (nm v, a)])) : FnBind B f fd := fun {C A' fr g as vs kw ks b h1 K E} _ I hb hvs hks k =>
 VarB.casesOn (abind_var hv hb) fun l l' ek eb eh => by
  subst ek eb eh
  rw [hf] at l k
  cases hvs with
  | nil => exact absurd l (Nat.not_succ_le_zero _)
  | cons h1 hvs => exact hks.n (C := fun ks => wpAny C.M A' (bindArgs fd ⟨_, ks⟩) K E g.s) (rest_tuple I hvs (Nat.le_of_succ_le l') fun hr I X => bind_var (H _ _) (hvs.length ▸ le2 (Nat.le_of_succ_le l')) (k _ _ rfl (.cons ⟨rfl, h1.mono (List.prefix_append _ _)⟩ (.one ⟨rfl, hr⟩)) I X))
theorem fb_var2 {x y v : Nat} (hf : f.params = [x, y]) (hv : f.var = some v) (H : ∀ v1 v2 rest, bindArgs fd ⟨v1 :: v2 :: rest, []⟩ = (newTuple rest >>= fun a => pure [(nm x, v1), (nm y, v2), (nm v, a)])) : FnBind B f fd := fun {C A' fr g as vs kw ks b h1 K E} _ I hb hvs hks k =>
 VarB.casesOn (abind_var hv hb) fun l l' ek eb eh => by
  subst ek eb eh
  rw [hf] at l k
  cases hvs with
  | nil => exact absurd l (Nat.not_succ_le_zero _)
  | cons h1 hvs => cases hvs with
   | nil => exact absurd (Nat.le_of_succ_le_succ l) (Nat.not_succ_le_zero _)
   | cons h2 hvs => exact hks.n (C := fun ks => wpAny C.M A' (bindArgs fd ⟨_, ks⟩) K E g.s) (rest_tuple I hvs (Nat.le_of_succ_le (Nat.le_of_succ_le l')) fun hr I X => bind_var (H _ _ _) (hvs.length ▸ le2 (Nat.le_of_succ_le (Nat.le_of_succ_le l'))) (k _ _ rfl (.cons ⟨rfl, h1.mono (List.prefix_append _ _)⟩ (.cons ⟨rfl, h2.mono (List.prefix_append _ _)⟩ (.one ⟨rfl, hr⟩))) I X))
noncomputable def ShapeOk (K : Frag) (f : IFn) (fd : FuncData) (n : Nat) (kn : List Nat) : Prop := ∀ (α : List Addr) (as : List AV) (vs : List Value) (kw : List (Nat × AV)) (ks : List (Str × Value)) (b : List (Nat × AV)), as.length = n → kw.map (·.1) = kn → LR (VR α) as vs → LR (KR α) kw ks →
 bindAll (f.params.zip as ++ kw) f.dfl (f.params ++ f.kwo.map (·.1)) = some b → ∃ binds, (∀ S, peek K S (bindArgs fd ⟨vs, ks⟩) = some binds) ∧ LR (KR α) b binds
theorem fb_shapes {K : Frag} (X : K.In B) (hv : f.var = none) (H : ∀ p ∈ f.shapes, ShapeOk K f fd p.1 p.2) : FnBind B f fd := fun {C A' fr g as vs kw ks b h1 K' E} eB I hb hvs hks k => by
 unfold abind at hb
 rw [hv] at hb
 dsimp only at hb
 split at hb
 ·next hc =>
  refine (Option.map_eq_some_iff.mp hb).elim fun b' e => ?_
  cases e.2
  exact (H _ (List.contains_iff_mem.mp hc) g.α as vs kw ks b rfl rfl hvs hks e.1).elim fun binds z => kp_binds (s := g.s) (fun a o e => I.sim.base a o (eB ▸ X a o e)) z.1 _ _ _ _ (k binds g rfl z.2 I .refl)
 ·cases hb
theorem fb1 {K : Frag} {x : Nat} (X : K.In B) (hv : f.var = none) (hs : f.shapes = [(1, [])]) (hp : f.params = [x]) (hk : f.kwo = []) (h : ∀ v S, peek K S (bindArgs fd ⟨[v], []⟩) = some [(nm x, v)]) : FnBind B f fd := fb_shapes X hv fun p hm α as vs kw ks b ha hkn hvs hks e => by
 rw [hs] at hm
 cases List.mem_singleton.mp hm
 obtain rfl := List.map_eq_nil_iff.mp hkn
 rw [hp, hk] at e
 cases hvs with
 | nil => cases ha
 | @cons a v _ _ hv hvs =>
  obtain rfl := List.length_eq_zero_iff.mp (Nat.succ.inj ha)
  refine hvs.n (C := fun r => ∃ binds, (∀ S, peek K S (bindArgs fd ⟨v :: r, ks⟩) = some binds) ∧ LR (KR α) b binds) (hks.n (C := fun ks => ∃ binds, (∀ S, peek K S (bindArgs fd ⟨[v], ks⟩) = some binds) ∧ LR (KR α) b binds) ?_)
  have e' : bindAll [(x, a)] f.dfl [x] = some [(x, a)] := by unfold bindAll; rw [List.lookup_cons, beq_self_eq_true]; rfl
  cases e'.symm.trans e
  exact ⟨_, h v, .one ⟨rfl, hv⟩⟩
theorem fb2 {K : Frag} {x y : Nat} (X : K.In B) (hv : f.var = none) (hs : f.shapes = [(2, [])]) (hp : f.params = [x, y]) (hk : f.kwo = []) (hn : (y == x) = false) (h : ∀ v u S, peek K S (bindArgs fd ⟨[v, u], []⟩) = some [(nm x, v), (nm y, u)]) : FnBind B f fd := fb_shapes X hv fun p hm α as vs kw ks b ha hkn hvs hks e => by
 rw [hs] at hm
 cases List.mem_singleton.mp hm
 obtain rfl := List.map_eq_nil_iff.mp hkn
 rw [hp, hk] at e
 cases hvs with
 | nil => cases ha
 | @cons a v _ _ hv hvs => cases hvs with
  | nil => cases ha
  | @cons c u _ _ hu hvs =>
   obtain rfl := List.length_eq_zero_iff.mp (Nat.succ.inj (Nat.succ.inj ha))
   refine hvs.n (C := fun r => ∃ binds, (∀ S, peek K S (bindArgs fd ⟨v :: u :: r, ks⟩) = some binds) ∧ LR (KR α) b binds) (hks.n (C := fun ks => ∃ binds, (∀ S, peek K S (bindArgs fd ⟨[v, u], ks⟩) = some binds) ∧ LR (KR α) b binds) ?_)
   have l1 : [(x, a), (y, c)].lookup x = some a := by rw [List.lookup_cons, beq_self_eq_true]
   have l2 : [(x, a), (y, c)].lookup y = some c := by rw [List.lookup_cons, hn, List.lookup_cons, beq_self_eq_true]
   have e' : bindAll [(x, a), (y, c)] f.dfl [x, y] = some [(x, a), (y, c)] := by
    unfold bindAll bindAll bindAll
    rw [l1, l2]; rfl
   cases e'.symm.trans e
   exact ⟨_, h v u, .cons ⟨rfl, hv⟩ (.one ⟨rfl, hu⟩)⟩
end
end Mine
namespace Mine
open PySem PySem.W PySem.Calls PyProof.Rows PyProof.V PySem.Spec PySem.SeqAt
noncomputable def isFunc : Option Obj → Option FuncData
 | some ⟨_, _, .func fd, _⟩ => some fd
 | _ => none
noncomputable def fdK (K : Frag) (a : Addr) : FuncData := (isFunc (K.lookup a)).getD default
noncomputable def bodyOf (fd : FuncData) : List Stmt := match fd.body with
 | .stmts b => b
 | _ => []
theorem fn_of {K : Frag} {a : Addr} {B : Heap} (X : K.In B) (h : (isFunc (K.lookup a)).isSome = true) : ∃ o, B.get? a = some o ∧ o.data = .func (fdK K a) := by
 unfold fdK
 cases e : K.lookup a with
 | none => rw [e] at h; cases h
 | some o =>
  rw [e] at h
  obtain ⟨c, d, dat, sl⟩ := o
  cases dat with
  | func fd => exact ⟨_, X _ _ e, rfl⟩
  | _ => cases h
noncomputable def strAt : Option Value → Option Str
 | some (.str q _) => some q
 | _ => none
noncomputable def codeQ : Option Obj → Option Str
 | some ⟨_, _, .fields vs, _⟩ => strAt vs[1]?
 | _ => none
noncomputable def codeAt : Value → Addr
 | .ref c => c
 | _ => 0
theorem code_of {K : Frag} {fd : FuncData} {B : Heap} {c : Addr} (X : K.In B) (hc : fd.code = .ref c) (h : codeQ (K.lookup c) = some fd.qualname) : B.CodeRec fd.code fd.qualname := by
 cases e : K.lookup c with
 | none => rw [e] at h; cases h
 | some o =>
  rw [e] at h
  obtain ⟨cl, d, dat, sl⟩ := o
  cases dat with
  | fields vs =>
   replace h : strAt vs[1]? = some fd.qualname := h
   cases e1 : vs[1]? with
   | none => rw [e1] at h; cases h
   | some v =>
    rw [e1] at h
    cases v with
    | str q t => cases h; exact ⟨c, _, vs, t, hc, X _ _ e, rfl, e1⟩
    | _ => cases h
  | _ => cases h
noncomputable def fnChk (K : Frag) (a : Addr) (f : IFn) (fd : FuncData) : Bool :=
 (isFunc (K.lookup a)).isSome && decide (codeQ (K.lookup (codeAt fd.code)) = some fd.qualname) && !fd.scope.isCoroutine && !fd.scope.isGenerator && decide f.cells.Nodup && decide f.ps.Nodup && decide (ofKind .cell fd.scope.names = f.cells.map nm) &&
 (f.ps.all fun x => decide (fd.scope.names.lookup (nm x) = some (if f.cells.contains x then .cell else .local))) && (f.cells.all fun x => decide (fd.scope.names.lookup (nm x) ≠ some .local))
theorem bt {a b : Bool} {P : Prop} (h : (a && b) = true) (k : a = true → b = true → P) : P := k (Bool.and_eq_true_iff.mp h).1 (Bool.and_eq_true_iff.mp h).2
theorem nt {a : Bool} (h : (!a) = true) : a = false := by cases a with
 | true => cases h
 | false => rfl
theorem fnok_of {K : Frag} {B : Heap} {k : Nat} {f : IFn} (X : K.In B) (c : fnChk K (fad k) f (fdK K (fad k)) = true) (cb : OkB (fdK K (fad k)).scope (bodyOf (fdK K (fad k))) f.body) (stm : (fdK K (fad k)).body = .stmts (bodyOf (fdK K (fad k)))) (clo : (fdK K (fad k)).closure = [])
  (gl : (fdK K (fad k)).globals = mainGlobals) (bl : (fdK K (fad k)).builtins = builtinsNs) (kd : (fdK K (fad k)).scope.kind = .function) (cd : (fdK K (fad k)).code = .ref (codeAt (fdK K (fad k)).code)) (fr : ofKind .free (fdK K (fad k)).scope.names = [])
  (hl : lamSc (fdK K (fad k)).scope = true → ((fdK K (fad k)).qualname ++ ".<locals>.") ++ "<lambda>" = lq ∧ ∃ c, (fdK K (fad k)).code = .ref c ∧ CodeHd B c tabA) (bd : FnBind B f (fdK K (fad k))) (var : f.var = none ∨ f.kwo = []) : FnOk B k f (fdK K (fad k)) (bodyOf (fdK K (fad k))) :=
 bt c fun c c9 => bt c fun c c8 => bt c fun c c7 => bt c fun c c6 => bt c fun c c5 => bt c fun c c4 => bt c fun c c3 => bt c fun c1 c2 => {
  obj := fn_of X c1
  stm := stm
  cb := cb
  clo := clo
  glob := gl
  blt := bl
  kind := kd
  cor := nt c3
  gen := nt c4
  crec := code_of X cd (of_decide_eq_true c2)
  cells := of_decide_eq_true c7
  celN := of_decide_eq_true c5
  free := fr
  nodup := of_decide_eq_true c6
  kinds := fun x hx => of_decide_eq_true (List.all_eq_true.mp c8 x hx)
  kindC := fun x hx => of_decide_eq_true (List.all_eq_true.mp c9 x hx)
  lam := hl
  bind := bd
  var := var }
end Mine
namespace Mine
open PySem PySem.W PySem.Calls PyProof.Rows PyProof.V PySem.Spec PySem.SeqAt
theorem lenC {α : Type} {n : Nat} {C : List α → Prop} {l : List α} (h : l.length = n + 1) (k : ∀ a t, t.length = n → C (a :: t)) : C l := by
 cases l with
 | nil => cases h
 | cons a t => exact k a t (Nat.succ.inj h)
theorem lenN {α : Type} {C : List α → Prop} {l : List α} (h : l.length = 0) (k : C []) : C l := by
 cases l with
 | nil => exact k
 | cons a t => cases h
noncomputable def ShB (K : Frag) (fd : FuncData) (α : List Addr) (b : List (Nat × AV)) (vs : List Value) (ks : List (Str × Value)) : Prop := ∃ binds, (∀ S, peek K S (bindArgs fd ⟨vs, ks⟩) = some binds) ∧ LR (KR α) b binds
theorem kw1C {α : List Addr} {x : Nat} {kw : List (Nat × AV)} {ks : List (Str × Value)} {C : List (Nat × AV) → List (Str × Value) → Prop} (h : kw.map (·.1) = [x]) (r : LR (KR α) kw ks) (k : ∀ a u, VR α a u → C [(x, a)] [(nm x, u)]) : C kw ks := by
 cases r with
 | nil => cases h
 | @cons p q kw ks hp t =>
  obtain ⟨y, a⟩ := p
  obtain ⟨y', u⟩ := q
  obtain ⟨h1, h2⟩ := hp
  obtain rfl : y' = nm y := h1
  cases t with
  | nil => cases h; exact k a u h2
  | cons _ _ => cases h
theorem kw0C {α : List Addr} {kw : List (Nat × AV)} {ks : List (Str × Value)} {C : List (Nat × AV) → List (Str × Value) → Prop} (h : kw.map (·.1) = []) (r : LR (KR α) kw ks) (k : C [] []) : C kw ks := by
 cases r with
 | nil => exact k
 | cons _ _ => cases h
theorem ok_0 (P : Params) {B : Heap} (X : (kf P).In B) : FnOk B 0 f0 (fdK (kf P) (fad 0)) (bodyOf (fdK (kf P) (fad 0))) :=
 fnok_of X (by kernel_rfl) (trB_ok (by kernel_rfl)) (by kernel_rfl) (by kernel_rfl) (by kernel_rfl) (by kernel_rfl) (by kernel_rfl) (by kernel_rfl) (by kernel_rfl) (fun z => Bool.noConfusion ((show lamSc (fdK (kf P) (fad 0)).scope = false by kernel_rfl).symm.trans z)) (fb2 X rfl rfl rfl rfl rfl fun v u S => by kernel_rfl) (.inl rfl)
theorem sh_1 (P : Params) : ∀ p ∈ f1.shapes, ShapeOk (kf P) f1 (fdK (kf P) (fad 1)) p.1 p.2 := fun p hp => by
 cases List.mem_singleton.mp hp
 exact (fun α as vs kw ks b ha hk hvs hks e => by
   refine kw0C (C := fun kw ks => bindAll (_ ++ kw) _ _ = some b → ShB _ _ α b vs ks) hk hks (fun e => ?_) e
   clear hk hks
   cases hvs with
   | nil => cases ha
   | @cons a1 v1 _ _ h1 hvs =>
    replace ha := Nat.succ.inj ha
    cases hvs with
    | cons _ _ => cases ha
    | nil =>
     have e : some [(12, a1), (13, .none)] = some b := e
     cases e
     exact ⟨[(nm 12, v1), (nm 13, .none)], fun S => by kernel_rfl, .cons ⟨rfl, h1⟩ (.one ⟨rfl, rfl⟩)⟩)
theorem ok_1 (P : Params) {B : Heap} (X : (kf P).In B) : FnOk B 1 f1 (fdK (kf P) (fad 1)) (bodyOf (fdK (kf P) (fad 1))) :=
 fnok_of X (by kernel_rfl) (trB_ok (by kernel_rfl)) (by kernel_rfl) (by kernel_rfl) (by kernel_rfl) (by kernel_rfl) (by kernel_rfl) (by kernel_rfl) (by kernel_rfl) (fun z => Bool.noConfusion ((show lamSc (fdK (kf P) (fad 1)).scope = false by kernel_rfl).symm.trans z)) (fb_shapes X rfl (sh_1 P)) (.inl rfl)
theorem ok_2 (P : Params) {B : Heap} (X : (kf P).In B) : FnOk B 2 f2 (fdK (kf P) (fad 2)) (bodyOf (fdK (kf P) (fad 2))) :=
 fnok_of X (by kernel_rfl) (trB_ok (by kernel_rfl)) (by kernel_rfl) (by kernel_rfl) (by kernel_rfl) (by kernel_rfl) (by kernel_rfl) (by kernel_rfl) (by kernel_rfl) (fun z => Bool.noConfusion ((show lamSc (fdK (kf P) (fad 2)).scope = false by kernel_rfl).symm.trans z)) (fb2 X rfl rfl rfl rfl rfl fun v u S => by kernel_rfl) (.inl rfl)
theorem ok_3 (P : Params) {B : Heap} (X : (kf P).In B) : FnOk B 3 f3 (fdK (kf P) (fad 3)) (bodyOf (fdK (kf P) (fad 3))) :=
 fnok_of X (by kernel_rfl) (trB_ok (by kernel_rfl)) (by kernel_rfl) (by kernel_rfl) (by kernel_rfl) (by kernel_rfl) (by kernel_rfl) (by kernel_rfl) (by kernel_rfl) (fun z => Bool.noConfusion ((show lamSc (fdK (kf P) (fad 3)).scope = false by kernel_rfl).symm.trans z)) (fb_var2 (x := 12) (y := 9) (v := 18) rfl rfl fun _ _ rest => by cases rest <;> kernel_rfl) (.inr rfl)
theorem ok_4 (P : Params) {B : Heap} (X : (kf P).In B) : FnOk B 4 f4 (fdK (kf P) (fad 4)) (bodyOf (fdK (kf P) (fad 4))) :=
 fnok_of X (by kernel_rfl) (trB_ok (by kernel_rfl)) (by kernel_rfl) (by kernel_rfl) (by kernel_rfl) (by kernel_rfl) (by kernel_rfl) (by kernel_rfl) (by kernel_rfl) (fun z => Bool.noConfusion ((show lamSc (fdK (kf P) (fad 4)).scope = false by kernel_rfl).symm.trans z)) (fb1 X rfl rfl rfl rfl fun v S => by kernel_rfl) (.inl rfl)
theorem ok_5 (P : Params) {B : Heap} (X : (kf P).In B) : FnOk B 5 f5 (fdK (kf P) (fad 5)) (bodyOf (fdK (kf P) (fad 5))) :=
 fnok_of X (by kernel_rfl) (trB_ok (by kernel_rfl)) (by kernel_rfl) (by kernel_rfl) (by kernel_rfl) (by kernel_rfl) (by kernel_rfl) (by kernel_rfl) (by kernel_rfl) (fun z => Bool.noConfusion ((show lamSc (fdK (kf P) (fad 5)).scope = false by kernel_rfl).symm.trans z)) (fb1 X rfl rfl rfl rfl fun v S => by kernel_rfl) (.inl rfl)
theorem ok_6 (P : Params) {B : Heap} (X : (kf P).In B) : FnOk B 6 f6 (fdK (kf P) (fad 6)) (bodyOf (fdK (kf P) (fad 6))) :=
 fnok_of X (by kernel_rfl) (trB_ok (by kernel_rfl)) (by kernel_rfl) (by kernel_rfl) (by kernel_rfl) (by kernel_rfl) (by kernel_rfl) (by kernel_rfl) (by kernel_rfl) (fun z => Bool.noConfusion ((show lamSc (fdK (kf P) (fad 6)).scope = false by kernel_rfl).symm.trans z)) (fb1 X rfl rfl rfl rfl fun v S => by kernel_rfl) (.inl rfl)
theorem ok_7 (P : Params) {B : Heap} (X : (kf P).In B) : FnOk B 7 f7 (fdK (kf P) (fad 7)) (bodyOf (fdK (kf P) (fad 7))) :=
 fnok_of X (by kernel_rfl) (trB_ok (by kernel_rfl)) (by kernel_rfl) (by kernel_rfl) (by kernel_rfl) (by kernel_rfl) (by kernel_rfl) (by kernel_rfl) (by kernel_rfl) (fun z => Bool.noConfusion ((show lamSc (fdK (kf P) (fad 7)).scope = false by kernel_rfl).symm.trans z)) (fb_var1 (x := 12) (v := 29) rfl rfl fun _ rest => by cases rest <;> kernel_rfl) (.inr rfl)
theorem ok_8 (P : Params) {B : Heap} (X : (kf P).In B) : FnOk B 8 f8 (fdK (kf P) (fad 8)) (bodyOf (fdK (kf P) (fad 8))) :=
 fnok_of X (by kernel_rfl) (trB_ok (by kernel_rfl)) (by kernel_rfl) (by kernel_rfl) (by kernel_rfl) (by kernel_rfl) (by kernel_rfl) (by kernel_rfl) (by kernel_rfl) (fun z => Bool.noConfusion ((show lamSc (fdK (kf P) (fad 8)).scope = false by kernel_rfl).symm.trans z)) (fb1 X rfl rfl rfl rfl fun v S => by kernel_rfl) (.inl rfl)
theorem sh_9 (P : Params) : ∀ p ∈ f9.shapes, ShapeOk (kf P) f9 (fdK (kf P) (fad 9)) p.1 p.2 := fun p hp => by
 refine (List.mem_cons.mp hp).elim (fun q => q ▸ (fun α as vs kw ks b ha hk hvs hks e => by
   refine kw1C (C := fun kw ks => bindAll (_ ++ kw) _ _ = some b → ShB _ _ α b vs ks) hk hks (fun k1 u1 hu e => ?_) e
   clear hk hks
   cases hvs with
   | nil => cases ha
   | @cons a1 v1 _ _ h1 hvs =>
    replace ha := Nat.succ.inj ha
    cases hvs with
    | nil => cases ha
    | @cons a2 v2 _ _ h2 hvs =>
     replace ha := Nat.succ.inj ha
     cases hvs with
     | cons _ _ => cases ha
     | nil =>
      have e : some [(37, a1), (38, a2), (39, .int 0), (40, .none), (41, k1)] = some b := e
      cases e
      exact ⟨[(nm 37, v1), (nm 38, v2), (nm 39, .int 0 196), (nm 40, .none), (nm 41, u1)], fun S => by kernel_rfl, .cons ⟨rfl, h1⟩ (.cons ⟨rfl, h2⟩ (.cons ⟨rfl, (VInt.mk)⟩ (.cons ⟨rfl, rfl⟩ (.one ⟨rfl, hu⟩))))⟩)) fun hp1 => ?_
 refine (List.mem_cons.mp hp1).elim (fun q => q ▸ (fun α as vs kw ks b ha hk hvs hks e => by
   refine kw1C (C := fun kw ks => bindAll (_ ++ kw) _ _ = some b → ShB _ _ α b vs ks) hk hks (fun k1 u1 hu e => ?_) e
   clear hk hks
   cases hvs with
   | nil => cases ha
   | @cons a1 v1 _ _ h1 hvs =>
    replace ha := Nat.succ.inj ha
    cases hvs with
    | nil => cases ha
    | @cons a2 v2 _ _ h2 hvs =>
     replace ha := Nat.succ.inj ha
     cases hvs with
     | nil => cases ha
     | @cons a3 v3 _ _ h3 hvs =>
      replace ha := Nat.succ.inj ha
      cases hvs with
      | nil => cases ha
      | @cons a4 v4 _ _ h4 hvs =>
       replace ha := Nat.succ.inj ha
       cases hvs with
       | cons _ _ => cases ha
       | nil =>
        have e : some [(37, a1), (38, a2), (39, a3), (40, a4), (41, k1)] = some b := e
        cases e
        exact ⟨[(nm 37, v1), (nm 38, v2), (nm 39, v3), (nm 40, v4), (nm 41, u1)], fun S => by kernel_rfl, .cons ⟨rfl, h1⟩ (.cons ⟨rfl, h2⟩ (.cons ⟨rfl, h3⟩ (.cons ⟨rfl, h4⟩ (.one ⟨rfl, hu⟩))))⟩)) fun hp2 => ?_
 cases List.mem_singleton.mp hp2
 exact (fun α as vs kw ks b ha hk hvs hks e => by
   refine kw0C (C := fun kw ks => bindAll (_ ++ kw) _ _ = some b → ShB _ _ α b vs ks) hk hks (fun e => ?_) e
   clear hk hks
   cases hvs with
   | nil => cases ha
   | @cons a1 v1 _ _ h1 hvs =>
    replace ha := Nat.succ.inj ha
    cases hvs with
    | nil => cases ha
    | @cons a2 v2 _ _ h2 hvs =>
     replace ha := Nat.succ.inj ha
     cases hvs with
     | nil => cases ha
     | @cons a3 v3 _ _ h3 hvs =>
      replace ha := Nat.succ.inj ha
      cases hvs with
      | cons _ _ => cases ha
      | nil =>
       have e : some [(37, a1), (38, a2), (39, a3), (40, .none), (41, .none)] = some b := e
       cases e
       exact ⟨[(nm 37, v1), (nm 38, v2), (nm 39, v3), (nm 40, .none), (nm 41, .none)], fun S => by kernel_rfl, .cons ⟨rfl, h1⟩ (.cons ⟨rfl, h2⟩ (.cons ⟨rfl, h3⟩ (.cons ⟨rfl, rfl⟩ (.one ⟨rfl, rfl⟩))))⟩)
theorem ok_9 (P : Params) {B : Heap} (X : (kf P).In B) : FnOk B 9 f9 (fdK (kf P) (fad 9)) (bodyOf (fdK (kf P) (fad 9))) :=
 fnok_of X (by kernel_rfl) (trB_ok (by kernel_rfl)) (by kernel_rfl) (by kernel_rfl) (by kernel_rfl) (by kernel_rfl) (by kernel_rfl) (by kernel_rfl) (by kernel_rfl) (fun z => Bool.noConfusion ((show lamSc (fdK (kf P) (fad 9)).scope = false by kernel_rfl).symm.trans z)) (fb_shapes X rfl (sh_9 P)) (.inl rfl)
theorem sh_10 (P : Params) : ∀ p ∈ f10.shapes, ShapeOk (kf P) f10 (fdK (kf P) (fad 10)) p.1 p.2 := fun p hp => by
 refine (List.mem_cons.mp hp).elim (fun q => q ▸ (fun α as vs kw ks b ha hk hvs hks e => by
   refine kw0C (C := fun kw ks => bindAll (_ ++ kw) _ _ = some b → ShB _ _ α b vs ks) hk hks (fun e => ?_) e
   clear hk hks
   cases hvs with
   | nil => cases ha
   | @cons a1 v1 _ _ h1 hvs =>
    replace ha := Nat.succ.inj ha
    cases hvs with
    | nil => cases ha
    | @cons a2 v2 _ _ h2 hvs =>
     replace ha := Nat.succ.inj ha
     cases hvs with
     | nil => cases ha
     | @cons a3 v3 _ _ h3 hvs =>
      replace ha := Nat.succ.inj ha
      cases hvs with
      | nil => cases ha
      | @cons a4 v4 _ _ h4 hvs =>
       replace ha := Nat.succ.inj ha
       cases hvs with
       | cons _ _ => cases ha
       | nil =>
        have e : some [(37, a1), (38, a2), (39, a3), (40, a4), (41, .none)] = some b := e
        cases e
        exact ⟨[(nm 37, v1), (nm 38, v2), (nm 39, v3), (nm 40, v4), (nm 41, .none)], fun S => by kernel_rfl, .cons ⟨rfl, h1⟩ (.cons ⟨rfl, h2⟩ (.cons ⟨rfl, h3⟩ (.cons ⟨rfl, h4⟩ (.one ⟨rfl, rfl⟩))))⟩)) fun hp1 => ?_
 cases List.mem_singleton.mp hp1
 exact (fun α as vs kw ks b ha hk hvs hks e => by
   refine kw1C (C := fun kw ks => bindAll (_ ++ kw) _ _ = some b → ShB _ _ α b vs ks) hk hks (fun k1 u1 hu e => ?_) e
   clear hk hks
   cases hvs with
   | nil => cases ha
   | @cons a1 v1 _ _ h1 hvs =>
    replace ha := Nat.succ.inj ha
    cases hvs with
    | nil => cases ha
    | @cons a2 v2 _ _ h2 hvs =>
     replace ha := Nat.succ.inj ha
     cases hvs with
     | nil => cases ha
     | @cons a3 v3 _ _ h3 hvs =>
      replace ha := Nat.succ.inj ha
      cases hvs with
      | nil => cases ha
      | @cons a4 v4 _ _ h4 hvs =>
       replace ha := Nat.succ.inj ha
       cases hvs with
       | cons _ _ => cases ha
       | nil =>
        have e : some [(37, a1), (38, a2), (39, a3), (40, a4), (41, k1)] = some b := e
        cases e
        exact ⟨[(nm 37, v1), (nm 38, v2), (nm 39, v3), (nm 40, v4), (nm 41, u1)], fun S => by kernel_rfl, .cons ⟨rfl, h1⟩ (.cons ⟨rfl, h2⟩ (.cons ⟨rfl, h3⟩ (.cons ⟨rfl, h4⟩ (.one ⟨rfl, hu⟩))))⟩)
theorem ok_10 (P : Params) {B : Heap} (X : (kf P).In B) : FnOk B 10 f10 (fdK (kf P) (fad 10)) (bodyOf (fdK (kf P) (fad 10))) :=
 fnok_of X (by kernel_rfl) (trB_ok (by kernel_rfl)) (by kernel_rfl) (by kernel_rfl) (by kernel_rfl) (by kernel_rfl) (by kernel_rfl) (by kernel_rfl) (by kernel_rfl) (fun z => Bool.noConfusion ((show lamSc (fdK (kf P) (fad 10)).scope = false by kernel_rfl).symm.trans z)) (fb_shapes X rfl (sh_10 P)) (.inl rfl)
theorem sh_11 (P : Params) : ∀ p ∈ f11.shapes, ShapeOk (kf P) f11 (fdK (kf P) (fad 11)) p.1 p.2 := fun p hp => by
 refine (List.mem_cons.mp hp).elim (fun q => q ▸ (fun α as vs kw ks b ha hk hvs hks e => by
   refine kw1C (C := fun kw ks => bindAll (_ ++ kw) _ _ = some b → ShB _ _ α b vs ks) hk hks (fun k1 u1 hu e => ?_) e
   clear hk hks
   cases hvs with
   | nil => cases ha
   | @cons a1 v1 _ _ h1 hvs =>
    replace ha := Nat.succ.inj ha
    cases hvs with
    | nil => cases ha
    | @cons a2 v2 _ _ h2 hvs =>
     replace ha := Nat.succ.inj ha
     cases hvs with
     | cons _ _ => cases ha
     | nil =>
      have e : some [(37, a1), (38, a2), (39, .int 0), (40, .none), (41, k1)] = some b := e
      cases e
      exact ⟨[(nm 37, v1), (nm 38, v2), (nm 39, .int 0 223), (nm 40, .none), (nm 41, u1)], fun S => by kernel_rfl, .cons ⟨rfl, h1⟩ (.cons ⟨rfl, h2⟩ (.cons ⟨rfl, (VInt.mk)⟩ (.cons ⟨rfl, rfl⟩ (.one ⟨rfl, hu⟩))))⟩)) fun hp1 => ?_
 cases List.mem_singleton.mp hp1
 exact (fun α as vs kw ks b ha hk hvs hks e => by
   refine kw0C (C := fun kw ks => bindAll (_ ++ kw) _ _ = some b → ShB _ _ α b vs ks) hk hks (fun e => ?_) e
   clear hk hks
   cases hvs with
   | nil => cases ha
   | @cons a1 v1 _ _ h1 hvs =>
    replace ha := Nat.succ.inj ha
    cases hvs with
    | nil => cases ha
    | @cons a2 v2 _ _ h2 hvs =>
     replace ha := Nat.succ.inj ha
     cases hvs with
     | nil => cases ha
     | @cons a3 v3 _ _ h3 hvs =>
      replace ha := Nat.succ.inj ha
      cases hvs with
      | cons _ _ => cases ha
      | nil =>
       have e : some [(37, a1), (38, a2), (39, a3), (40, .none), (41, .none)] = some b := e
       cases e
       exact ⟨[(nm 37, v1), (nm 38, v2), (nm 39, v3), (nm 40, .none), (nm 41, .none)], fun S => by kernel_rfl, .cons ⟨rfl, h1⟩ (.cons ⟨rfl, h2⟩ (.cons ⟨rfl, h3⟩ (.cons ⟨rfl, rfl⟩ (.one ⟨rfl, rfl⟩))))⟩)
theorem ok_11 (P : Params) {B : Heap} (X : (kf P).In B) : FnOk B 11 f11 (fdK (kf P) (fad 11)) (bodyOf (fdK (kf P) (fad 11))) :=
 fnok_of X (by kernel_rfl) (trB_ok (by kernel_rfl)) (by kernel_rfl) (by kernel_rfl) (by kernel_rfl) (by kernel_rfl) (by kernel_rfl) (by kernel_rfl) (by kernel_rfl) (fun z => Bool.noConfusion ((show lamSc (fdK (kf P) (fad 11)).scope = false by kernel_rfl).symm.trans z)) (fb_shapes X rfl (sh_11 P)) (.inl rfl)
theorem ok_12 (P : Params) {B : Heap} (X : (kf P).In B) (hC : CodeHd B codA tabA) : FnOk B 12 g06_12 (fdK (kf P) (fad 12)) (bodyOf (fdK (kf P) (fad 12))) :=
 fnok_of X (by kernel_rfl) (trB_ok (by kernel_rfl)) (by kernel_rfl) (by kernel_rfl) (by kernel_rfl) (by kernel_rfl) (by kernel_rfl) (by kernel_rfl) (by kernel_rfl) (fun _ => ⟨by kernel_rfl, codA, by kernel_rfl, hC⟩) (fb1 X rfl rfl rfl rfl fun v S => by kernel_rfl) (.inl rfl)
theorem ok_13 (P : Params) {B : Heap} (X : (kf P).In B) : FnOk B 13 g06_13 (fdK (kf P) (fad 13)) (bodyOf (fdK (kf P) (fad 13))) :=
 fnok_of X (by kernel_rfl) (trB_ok (by kernel_rfl)) (by kernel_rfl) (by kernel_rfl) (by kernel_rfl) (by kernel_rfl) (by kernel_rfl) (by kernel_rfl) (by kernel_rfl) (fun z => Bool.noConfusion ((show lamSc (fdK (kf P) (fad 13)).scope = false by kernel_rfl).symm.trans z)) (fb2 X rfl rfl rfl rfl rfl fun v u S => by kernel_rfl) (.inl rfl)
theorem ok_14 (P : Params) {B : Heap} (X : (kf P).In B) : FnOk B 14 g06_14 (fdK (kf P) (fad 14)) (bodyOf (fdK (kf P) (fad 14))) :=
 fnok_of X (by kernel_rfl) (trB_ok (by kernel_rfl)) (by kernel_rfl) (by kernel_rfl) (by kernel_rfl) (by kernel_rfl) (by kernel_rfl) (by kernel_rfl) (by kernel_rfl) (fun z => Bool.noConfusion ((show lamSc (fdK (kf P) (fad 14)).scope = false by kernel_rfl).symm.trans z)) (fb2 X rfl rfl rfl rfl rfl fun v u S => by kernel_rfl) (.inl rfl)
theorem ok_15 (P : Params) {B : Heap} (X : (kf P).In B) : FnOk B 15 g06_15 (fdK (kf P) (fad 15)) (bodyOf (fdK (kf P) (fad 15))) :=
 fnok_of X (by kernel_rfl) (trB_ok (by kernel_rfl)) (by kernel_rfl) (by kernel_rfl) (by kernel_rfl) (by kernel_rfl) (by kernel_rfl) (by kernel_rfl) (by kernel_rfl) (fun z => Bool.noConfusion ((show lamSc (fdK (kf P) (fad 15)).scope = false by kernel_rfl).symm.trans z)) (fb2 X rfl rfl rfl rfl rfl fun v u S => by kernel_rfl) (.inl rfl)
theorem fns_ok (P : Params) {B : Heap} (X : (kf P).In B) (hC : CodeHd B codA tabA) : FnsOk B := fun k f e hd => by
 have hk : k < 18 := (List.getElem?_eq_some_iff.mp e).1
 match k, hk, e with
 | 0, _, e => cases e; exact ⟨_, _, ok_0 P X⟩
 | 1, _, e => cases e; exact ⟨_, _, ok_1 P X⟩
 | 2, _, e => cases e; exact ⟨_, _, ok_2 P X⟩
 | 3, _, e => cases e; exact ⟨_, _, ok_3 P X⟩
 | 4, _, e => cases e; exact ⟨_, _, ok_4 P X⟩
 | 5, _, e => cases e; exact ⟨_, _, ok_5 P X⟩
 | 6, _, e => cases e; exact ⟨_, _, ok_6 P X⟩
 | 7, _, e => cases e; exact ⟨_, _, ok_7 P X⟩
 | 8, _, e => cases e; exact ⟨_, _, ok_8 P X⟩
 | 9, _, e => cases e; exact ⟨_, _, ok_9 P X⟩
 | 10, _, e => cases e; exact ⟨_, _, ok_10 P X⟩
 | 11, _, e => cases e; exact ⟨_, _, ok_11 P X⟩
 | 12, _, e => cases e; exact ⟨_, _, ok_12 P X hC⟩
 | 13, _, e => cases e; exact ⟨_, _, ok_13 P X⟩
 | 14, _, e => cases e; exact ⟨_, _, ok_14 P X⟩
 | 15, _, e => cases e; exact ⟨_, _, ok_15 P X⟩
 | 16, _, e => cases e; cases hd
 | 17, _, e => cases e; cases hd
 | k + 18, hk, _ => exact absurd hk (Nat.not_lt.mpr (Nat.le_add_left _ _))
end Mine
namespace Mine
open PySem PySem.W PySem.Calls PyProof.Rows PyProof.V PySem.Spec PySem.SeqAt
theorem mg_no {K : Frag} {h : Heap} {mg : Str → Option Value} {n : Str} (X : K.In h) (G : h.Ns mainGlobals mg) (e : nsIn K mainGlobals n = some none) : mg n = none := by
 obtain ⟨o, es, ep, ho, hd, _, hf⟩ := G
 unfold nsIn at e
 split at e
 ·next c d es' n' sl q =>
  cases ho.symm.trans (X _ _ q)
  cases hd
  split at e
  ·cases e
  ·next he =>
   rw [← hf]
   unfold nsFind findBy
   rw [← Array.find?_toList, he]
   rfl
 ·cases e
noncomputable def gRef (K : Frag) (id : Str) (a : Addr) : Bool := decide (nsIn K mainGlobals id = some (some (.ref a)))
noncomputable def gBi (K : Frag) (id : Str) (v : Value) : Bool := decide (nsIn K mainGlobals id = some none) && (decide (bootBuiltins id = some v) && decide (id ≠ "__name__"))
noncomputable def gInt (i : Int) : Option (Option Value) → Bool
 | some (some (.int j _)) => decide (j = i)
 | _ => false
noncomputable def glChk (K : Frag) (id : Str) : GV → Bool
 | .fn k => gRef K id (fad k)
 | .cls b => gRef K id (clsA b)
 | .int i => gInt i (nsIn K mainGlobals id)
 | .bi s => gBi K id (.builtin s)
 | .ty s => gBi K id (.type s)
theorem glF (P : Params) : (glL.all fun p => glChk (kf P) p.1 p.2) = true := by kernel_rfl
structure Tops (B : Heap) (w : World) (mg mb : Str → Option Value) : Prop where
 X : (kf w.params).In B
 g : B.Ns mainGlobals mg
 b : B.Ns builtinsNs mb
 hbt : ∀ x : Str, x ≠ "__name__" → mb x = bootBuiltins x
 nl : B.NoLimit
 sm : ∃ o, B.get? sysModules = some o
 tabB : B.get? tabA = none
 bmn : ∃ bm ob, mg "__builtins__" = some (.ref bm) ∧ bm ≠ builtinsNs ∧ B.get? bm = some ob ∧ ob.cls = .type "module" ∧ ob.dict = some builtinsNs ∧ ob.data = .plain
section
variable {B : Heap} {w : World} {mg mb : Str → Option Value}
theorem gBi_of {id : Str} {v : Value} (T : Tops B w mg mb) (h : gBi (kf w.params) id v = true) : mg id = none ∧ mb id = some v :=
 bt h fun h1 h => bt h fun h2 h3 => ⟨mg_no T.X T.g (of_decide_eq_true h1), (T.hbt id (of_decide_eq_true h3)).trans (of_decide_eq_true h2)⟩
theorem wd_of (T : Tops B w mg mb) : WdH B w mg mb where
 g := T.g
 b := T.b
 gl id x e := by
  have h := List.all_eq_true.mp (glF w.params) (id, x) (mem_of_lk e)
  cases x with
  | fn k => exact ⟨_, rfl, .inl (mg_of T.X T.g (of_decide_eq_true h))⟩
  | cls b => exact ⟨_, rfl, .inl (mg_of T.X T.g (of_decide_eq_true h))⟩
  | int i =>
   replace h : gInt i (nsIn (kf w.params) mainGlobals id) = true := h
   cases hn : nsIn (kf w.params) mainGlobals id with
   | none => rw [hn] at h; cases h
   | some o => cases o with
    | none => rw [hn] at h; cases h
    | some v => cases v with
     | int j t => rw [hn] at h; exact ⟨_, of_decide_eq_true h ▸ vint, .inl (mg_of T.X T.g hn)⟩
     | _ => rw [hn] at h; cases h
  | bi s => exact ⟨_, rfl, .inr (gBi_of T h)⟩
  | ty s => exact ⟨_, rfl, .inr (gBi_of T h)⟩
 nolimit := T.nl
 k := T.X
 sysM := T.sm
 bat := by
  obtain ⟨bm, ob, b1, b2, b3, b4, b5, b6⟩ := T.bmn
  refine ⟨bm, ob, b1, b2, fun z => ?_, fun z => some_ne b3 (z ▸ T.tabB), b3, b4, b5, b6⟩
  obtain ⟨o, es, ep, ho, hd, _⟩ := T.g
  rw [z, ho] at b3; cases b3; rw [b6] at hd; cases hd
 tabB := T.tabB
end
end Mine
namespace Mine
open PySem PySem.W PySem.Calls PyProof.Rows PyProof.V PySem.Spec PySem.SeqAt
structure Fine (B : Heap) (s₁ : Shared) (v : Value) (s' : Shared) : Prop where
 v : v = .bool true
 B : B.StaysIn s'.heap
 os : s'.os = s₁.os
 gens : s'.gens = s₁.gens
 tab : ∃ ps, s'.heap.get? tabA = some (tabObj ps)
section
variable {n : Nat} {B : Heap} {w : World} {mg mb : Str → Option Value} {s₁ : Shared}
theorem one_get {β : Type} {x y : β} {k : Nat} {P : Prop} (e : [x][k]? = some y) (h : k = 0 → y = x → P) : P := by
 cases k with
 | zero => exact h rfl (Option.some.inj e).symm
 | succ k => cases e
theorem entry {k x : Nat} {f : IFn} {fd : FuncData} {body : List Stmt} {l : Addr} {vs : List Value} {ns : List Int} (W : WdH B w mg mb) (F : FnOk B k f fd body) (S : ∀ m, m ≤ n → SC B w mg mb m) (hps : f.ps = [x]) (hcx : f.cells.contains x = false)
  (hb : abind f [.ref 0] [] [.ro (ns.map AV.int)] = some ([(x, .ref 0)], [.ro (ns.map AV.int)])) (hbind : ∀ v St, peek (kf w.params) St (bindArgs fd ⟨[v], []⟩) = some [(nm x, v)])
  (base : B.StaysIn s₁.heap) (htab : s₁.heap.get? tabA = some (tabObj #[])) (hl : s₁.heap.IsList l vs.toArray) (hI : IntsAre vs ns) (hlen : ns.length ≤ 100000)
  (Ao : ∀ env, AOk n (callerA.deeper env)) (q : runF (go n) f [] [.ref 0] [] [.ro (ns.map AV.int)] fun v _ => v = .bool true) : codeAny (model pw w) callerA (.call (.ref (fad k)) ⟨[.ref l], []⟩) (wants (Fine B s₁) FF) s₁ := by
 refine runF.casesOn q fun b h1 hb' q => F.obj.elim fun o ho => ?_
 cases hb.symm.trans hb'
 have hcd : s₁.heap.CodeRec fd.code fd.qualname := by
  obtain ⟨c, oc, vc, tc, e1, e2, e3⟩ := F.crec
  exact ⟨c, oc, vc, tc, e1, base _ _ e2, e3⟩
 refine codeAny_call_function (by decide) (base _ _ ho.1) ho.2 F.cor F.gen F.stm hcd (kp_binds (fun a o e => base a o (W.k a o e)) (hbind (.ref l)) _ _ _ _ ?_)
 have hxk := F.kinds x (by rw [hps]; exact .head _)
 rw [hcx] at hxk
 rw [F.clo]
 refine wpAny_newFunctionEnv_cells F.kind (fun p hp => by rw [List.mem_singleton.mp hp]; exact .inl hxk) fun env' he s₂ X => ?_
 subst he
 have k12 := X.toInCall.keep
 obtain ⟨h₂, tk₂, rfl⟩ := X.toInCall.same
 generalize hE : newEnv fd.scope s₁.heap.objs.size fd.globals (cellsFrom (s₁.heap.objs.size + 1) fd.scope.names []) (fd.qualname ++ ".<locals>.") (some (fad k)) fd.code none fd.builtins = env' at X
 have eL : env'.locals = s₁.heap.objs.size := hE ▸ rfl
 have eF : env'.frame = some env'.locals := hE ▸ rfl
 have eS : env'.scope = fd.scope := hE ▸ rfl
 have eC : env'.cells = cellsFrom (s₁.heap.objs.size + 1) fd.scope.names [] := hE ▸ rfl
 have hLf : s₁.heap.get? env'.locals = none := by rw [eL]; exact fresh_size _
 have E' : EnvH B env' fd.scope := ⟨eS, F.kind, hE ▸ F.glob, hE ▸ F.blt, fun m hm => by
  refine (List.mem_map.mp (F.cells ▸ mem_ofKind (hm.resolve_right fun z => List.not_mem_nil (F.free ▸ mem_ofKind z)))).elim fun y hy => (List.mem_iff_getElem?.mp hy.1).elim fun i e => ?_
  rw [eC, ← hy.2]
  exact ⟨_, F.own e⟩, fun hl => by rw [← hE]; exact F.lam hl⟩
 have hko : ∀ y, env'.kindOf y = fd.scope.names.lookup y := fun y => by unfold Env.kindOf; rw [eS]
 obtain ⟨ol, hol, holc, nl, hold⟩ := id hl
 have lne : ∀ {b o}, s₁.heap.get? b = some o → b ≠ env'.locals := fun e z => some_ne e (z ▸ hLf)
 have hBf : ∀ {a}, s₁.heap.get? a = none → B.get? a = none := fun {a} e => by
  cases z : B.get? a with
  | none => rfl
  | some o => exact some_ne (base a o z) e
 have hlT : tabA ≠ l := fun z => by rw [z, hol] at htab; cases htab; cases holc
 have hfr : frs (callerA.deeper env') = [env'.locals] := by
  show [env'].filterMap (·.frame) = _
  rw [List.filterMap_cons, eF]; rfl
 have NS := X.toInCall.ns
 have nd1 : ([(nm x, Value.ref l)].map (·.1)).Nodup := List.nodup_cons.mpr ⟨List.not_mem_nil, .nil⟩
 have I0 : InvH ⟨B, w, mg, mb, callerA.deeper env', env'⟩ ⟨fun y => List.lookup y [(x, AV.ref 0)], fun _ => none⟩ [l] [.ro (ns.map AV.int)] h₂ := {
  sim := {
   len := rfl
   nd := List.nodup_cons.mpr ⟨List.not_mem_nil, .nil⟩
   obj := fun k o a hk ha => one_get hk fun _ z => one_get ha fun _ z' => by subst z z'; exact ⟨ol, k12 _ _ hol, ⟨holc, hold, ints_rel hI⟩⟩
   base := fun b o e => k12 b o (base b o e)
   own := fun k o a hk ha => one_get hk fun _ z => .inl ⟨_, z⟩
   tab := .mk (k12 _ _ htab) trivial fun pos cv z => nomatch z
   tabN := fun z => hlT (List.mem_singleton.mp z)
   wf := ⟨fun k d e => one_get e fun _ z => (nomatch congrArg Prod.fst z), fun k d e => one_get e fun _ z => (nomatch congrArg Prod.fst z), fun o ho => by rw [List.mem_singleton.mp ho]; show (ns.map AV.int).length ≤ 200000; rw [List.length_map]; exact le2 hlen⟩ }
  ns := .mk NS fun y v hy => by
   replace hy : [(x, AV.ref 0)].lookup y = some v := hy
   rw [List.lookup_cons] at hy
   cases z : y == x with
   | true =>
    rw [z] at hy; cases hy
    obtain rfl := beq_iff_eq.mp z
    exact ⟨.ref l, by rw [bindL_eq ((hko _).trans hxk) nd1, lookup_eq]; rfl, ⟨rfl⟩⟩
   | false => rw [z] at hy; exact noS hy
  cel := fun _ _ e => noS e
  locN := fun z => lne hol (List.mem_singleton.mp z).symm
  locB := hBf hLf
  locT := fun z => lne htab z.symm
  FN := fun b hb => by rw [hfr] at hb; rw [List.mem_singleton.mp hb]; exact ⟨fun z => lne hol (List.mem_singleton.mp z).symm, fun z => lne htab z.symm⟩
  FF := ⟨rfl, by rw [eS, F.kind]; nofun, NS.elim fun o z => z.elim fun es z => z.elim fun ep z => ⟨env'.locals, o, eF, hBf hLf, z.1, fun vs e => by rw [z.2.1] at e; cases e⟩, trivial⟩
  hd := ⟨env', [], rfl, rfl⟩ }
 have fz : ∀ i, s₁.heap.get? (s₁.heap.objs.size + 1 + i) = none := fun i => Heap.get?_none_of_le (Nat.le_trans (Nat.le_succ _) (Nat.le_add_right _ _))
 have I3 := InvH.adoptCells (v := fun y => [(x, AV.ref 0)].lookup y) (own := f.cells) (b := s₁.heap.objs.size + 1) I0 fun i y e => by
  have kc : env'.kindOf (nm y) ≠ some .local := by rw [hko]; exact F.kindC y (List.mem_of_getElem? e)
  have hne : y ≠ x := fun z => Bool.noConfusion (hcx.symm.trans (List.contains_iff_mem.mpr (z ▸ List.mem_of_getElem? e)))
  have nl : ∀ b o, b = s₁.heap.objs.size + 1 + i → s₁.heap.get? b = some o → False := fun b o z e => some_ne e (z ▸ fz i)
  refine (X.cell (nm y) _ (by rw [eC]; exact F.own e)).elim fun o z => ⟨⟨o, z.1, ⟨z.2, ?_⟩⟩, fun q => nl _ _ (List.mem_singleton.mp q).symm hol, fun q => by rw [show _ = env'.locals from q, eL] at z; exact Nat.ne_of_gt (Nat.lt_of_lt_of_le (Nat.lt_succ_self _) (Nat.le_add_right _ i)) (q.trans eL), fun q => ?_, fun q => nl _ _ q.symm htab, hBf (fz i)⟩
  ·rw [bindC_eq kc nd1, lookup_ne (fun z => hne (nmI z)), show [(x, AV.ref 0)].lookup y = none by rw [List.lookup_cons, beq_eq_false_iff_ne.mpr hne]; rfl]
   trivial
  ·rw [hfr] at q
   exact Nat.ne_of_gt (Nat.lt_of_lt_of_le (Nat.lt_succ_self _) (Nat.le_add_right _ i)) ((List.mem_singleton.mp q).trans eL)
 have I' : InvH ⟨B, w, mg, mb, callerA.deeper env', env'⟩ (enterF f [] [(x, .ref 0)] [.ro (ns.map AV.int)]).1 ([l] ++ List.range' (s₁.heap.objs.size + 1) f.cells.length) ([.ro (ns.map AV.int)] ++ f.cells.map fun y => .cell ([(x, AV.ref 0)].lookup y)) h₂ := {
  I3 with
  ns := NsR.casesOn I3.ns fun hm hv => .mk hm fun y v hy => hv y v (by
   replace hy : (if f.cells.contains y then none else [(x, AV.ref 0)].lookup y) = some v := hy
   split at hy
   ·exact noS hy
   ·exact hy)
  cel := fun y kk hy => by
   replace hy : (cellIdx 1 f.cells y).or none = some kk := hy
   rw [Option.or_none] at hy
   refine (cellIdx_own hy).elim fun i z => ⟨s₁.heap.objs.size + 1 + i, ?_, by rw [eC]; exact F.own z.1⟩
   rw [z.2, List.getElem?_append_right (Nat.le_add_right 1 i)]
   show (List.range' (s₁.heap.objs.size + 1) f.cells.length)[1 + i - 1]? = _
   rw [Nat.add_sub_cancel_left, List.getElem?_range' (List.getElem?_eq_some_iff.mp z.1).1, Nat.one_mul] }
 refine ⟨W.nolimit.keeps I'.sim.base, codeAny_func (Cx.wp.E (C := ⟨B, w, mg, mb, callerA.deeper env', env'⟩) (F.cb (g := ⟨_, _, { s₁ with heap := h₂, toks := tk₂ }⟩) ⟨W, E', Ao env', S⟩ q I' fun fw fl fr₄ g₄ q hfl I₄ X₄ => ?_))⟩
 have fin : ∀ {v}, VR g₄.α (.bool true) v → Fine B s₁ v g₄.s := fun hv => ⟨hv.symm, I₄.sim.base, X₄.os, X₄.gens, TabOk.casesOn I₄.sim.tab fun e _ _ => ⟨_, e⟩⟩
 induction fl with
 | next => cases (show AV.none = .bool true from q)
 | brk => exact q.elim
 | cont => exact q.elim
 | ret v =>
  refine (show ∃ w, fw = .ret w ∧ VR g₄.α v w from hfl).elim fun u z => ?_
  rw [z.1]
  exact fin ((show v = AV.bool true from q) ▸ z.2)
end
end Mine
namespace Mine
open PySem PySem.W PySem.Calls PyProof.Rows PyProof.V PySem.Spec PySem.SeqAt
noncomputable def Law : Prop := ∀ ns : List Int, ns.length ≤ 63 → runF (go 400) g06_12 [] [.ref 0] [] [.ro (ns.map AV.int)] fun v _ => v = .bool true
theorem tops {w : World} {s₁ : Shared} {mg mb : Str → Option Value} {p : Program} {loose : List Str} {mean : ExcName → Option Value} (T : Top p loose mean mg mb s₁.heap) (hi : importsNone p = true) (KX : (kf w.params).In s₁.heap) (hT : TabsAt [(codA, tabA)] s₁.heap) : Tops (ghostOf s₁.heap [(codA, tabA)]) w mg mb where
 X := ghost_K hT KX (by kernel_rfl)
 g := ghost_ns hT T.g
 b := ghost_ns hT T.b
 hbt := T.builtins
 nl := let ⟨mc, a, r⟩ := T.nolimit; ⟨mc, ghost_ns hT a, r⟩
 sm := by
  obtain ⟨mm, hm, _⟩ := (T.seer hi).mods
  obtain ⟨o, es, ep, ho, _⟩ := ghost_ns hT hm
  exact ⟨o, ho⟩
 tabB := hideAll_none _ (.head _)
 bmn := by
  obtain ⟨bm, ob, b1, b2, b3, b4, b5, b6⟩ := T.bmain
  exact ⟨bm, ob, b1, b2, ghost_get hT b3 (fun q => by rw [q] at b4; cases b4), b4, b5, b6⟩
theorem core (H : Law) {w : World} {s₁ : Shared} {mg mb : Str → Option Value} {p : Program} {loose : List Str} {mean mean' : ExcName → Option Value} {cl : Str → Option Addr} {args : List WData} {l : Addr} {vs : List Value} {ns : List Int}
  (T : Top p loose mean mg mb s₁.heap) (hi : importsNone p = true) (KX : (kf w.params).In s₁.heap) (hT : TabsAt [(codA, tabA)] s₁.heap) (hL : s₁.heap.IsList l vs.toArray) (hI : IntsAre vs ns) (hlen : ns.length ≤ 63) (hg : s₁.gens = #[]) :
  codeAny (model pw w) callerA (.call (.ref (fad 12)) ⟨[.ref l], []⟩) (fun r s' => GoodW PySem.Challenge.rw_dn0053_06.row.claim cl mean' args { s₁ with heap := ghostOf s₁.heap [(codA, tabA)] } r s' ∧ GrownAll [(codA, tabA)] s'.heap) s₁ := by
 have TT := tops (w := w) T hi KX hT
 have W := wd_of TT
 have hC : CodeHd (ghostOf s₁.heap [(codA, tabA)]) codA tabA := (ghost_code hT).1
 refine codeAny_mono (entry (x := 61) W (ok_12 w.params TT.X hC) (sC_all W (fns_ok w.params TT.X hC) 400) rfl rfl rfl (fun v S => by kernel_rfl) (fun b o e => of_hideAll _ e) (hT _ (.head _)).2 hL hI (Nat.le_trans hlen (by decide))
  (fun env => ⟨rfl, by show callerA.depth + 1 + 400 < 900; decide, by show callerA.units + 3 + 20 * 400 < 9000; decide⟩) (H ns hlen)) fun r s' hr => ?_
 cases r with
 | error e => exact hr.elim
 | ok f =>
  cases f with
  | ret v =>
   obtain ⟨rfl, h1, h2, h3, h4⟩ := hr
   exact ⟨⟨.inl ⟨.bool true, .bool true, [], rfl, fun _ => rfl, .bool true, postW_of (by first | rfl | kernel_rfl) (X := true) (by simp [OpenLaw.row, WTm.value]; first | decide +kernel | rfl | simp [W.same]) rfl, fun _ => ⟨List.nodup_nil, fun _ z => nomatch z⟩⟩, h1, h2, h3.trans hg⟩, h4, trivial⟩
  | _ => exact hr.elim
theorem reduce (H : Law) : PySem.Challenge.rw_dn0053_06.Holds := hd (by
 k_fill
 intro w s₀ s₁ mg mb G Y fa o pm cd doc dV kV ho hd hcd hD hmg hg args vals as hpre hlay hrd hwl hlo
 have KX := km_in_of Y
 km_tabs Y
 have X := (Ground.X G).1
 have V := (Ground.X G).2
 refine Ground.open G ?_
 intro T B D TE TW
 try (refine guard_noD D (by decide +kernel) ?_; clear D)
 km_lay T hmg ho hd cd
 have hfa : fa = fad 12 := by
  have e := mg_of (n := Str.ofString "law") (v := .ref (fad 12)) KX (Top.g T) (by kernel_rfl)
  have e2 := e.symm.trans hmg
  cases e2
  rfl
 subst hfa
 clear hmg
 wrow_args hpre hlay hrd hwl hlo
 rename_i ns _ _ _ _ _ _ _ l vs _ hL _ _ _ hI _ hc _
 clear hD hd
 refine enter_call ?_
 refine kn_post hT9 (fun _ _ => rfl) ?_
 exact core H T (by kernel_rfl) KX hT9 hL hI (by lia) hg)
end Mine
namespace Mine
theorem mE {F : (AV → Hp → Prop) → Prop} {Q : AV → Hp → Prop} (p : F Q) : MonE F Q := ⟨Q, p, fun _ _ z => z⟩
theorem mX {F : (AFlow → Fm → Hp → Prop) → Prop} {Q : AFlow → Fm → Hp → Prop} (p : F Q) : MonX F Q := ⟨Q, p, fun _ _ _ z => z⟩
inductive ML (v : AV) (h : Hp) (Q : Nat → Prop) : Prop | mk (k : Nat) (xs : List AV) (ev : v = .ref k) (e : h[k]? = some (.list xs)) (q : Q k)
inductive MD (v : AV) (h : Hp) (Q : Nat → Prop) : Prop | mk (k : Nat) (es : List (Int × AV)) (n : Nat) (ev : v = .ref k) (e : h[k]? = some (.dict es n)) (q : Q k)
inductive MD' (v : AV) (h : Hp) (k : Nat) (Q : Int → List (Int × AV) → Prop) : Prop | mk (i : Int) (es : List (Int × AV)) (n : Nat) (ev : v = .int i) (e : h[k]? = some (.dict es n)) (q : Q i es)
inductive MS (v : AV) (h : Hp) (Q : Nat → Prop) : Prop | mk (k : Nat) (es : List Int) (ev : v = .ref k) (e : h[k]? = some (.set es)) (q : Q k)
inductive MS' (v : AV) (h : Hp) (k : Nat) (Q : Int → List Int → Prop) : Prop | mk (i : Int) (es : List Int) (ev : v = .int i) (e : h[k]? = some (.set es)) (l : es.length ≤ 1000) (q : Q i es)
inductive MI (v : AV) (h : Hp) (Q : Nat → Prop) : Prop | mk (k d : Nat) (ev : v = .ref k) (e : h[k]? = some (.inst d)) (q : Q k)
section
variable {n : Nat} {fr : Fm} {h : Hp}
theorem eLoc {x : Nat} {v : AV} {Q : AV → Hp → Prop} (e : fr.loc x = some v) (q : Q v h) : (go (n + 1)).ev (.loc x) fr h Q := mE ⟨v, e, q⟩
theorem eCel {x k : Nat} {v : AV} {Q : AV → Hp → Prop} (e : fr.cel x = some k) (e' : h[k]? = some (.cell (some v))) (q : Q v h) : (go (n + 1)).ev (.cel x) fr h Q := mE ⟨e, e', q⟩
theorem eInt {i : Int} {Q : AV → Hp → Prop} (q : Q (.int i) h) : (go (n + 1)).ev (.int i) fr h Q := mE q
theorem eNone {Q : AV → Hp → Prop} (q : Q .none h) : (go (n + 1)).ev .none fr h Q := mE q
theorem eBool {b : Bool} {Q : AV → Hp → Prop} (q : Q (.bool b) h) : (go (n + 1)).ev (.bool b) fr h Q := mE q
theorem eGint {x : Nat} {i : Int} {Q : AV → Hp → Prop} (q : Q (.int i) h) : (go (n + 1)).ev (.gint x i) fr h Q := mE q
theorem eFn {k : Nat} {Q : AV → Hp → Prop} (q : Q (.fn k) h) : (go (n + 1)).ev (.fn k) fr h Q := mE q
theorem eCls {b : Bool} {Q : AV → Hp → Prop} (q : Q (.cls b) h) : (go (n + 1)).ev (.cls b) fr h Q := mE q
theorem eBin {op : BOp} {a b : IExpr} {Q : AV → Hp → Prop} (q : (go n).ev a fr h fun x h => (go n).ev b fr h fun y h => binop h Q op x y) : (go (n + 1)).ev (.bin op a b) fr h Q := mE q
theorem eNeg {a : IExpr} {Q : AV → Hp → Prop} (q : (go n).ev a fr h fun x h => IsI x fun i => Q (.int (-i)) h) : (go (n + 1)).ev (.neg a) fr h Q := mE q
theorem eCmp {op : COp} {a b : IExpr} {Q : AV → Hp → Prop} (q : (go n).ev a fr h fun x h => (go n).ev b fr h fun y h => cmpop h (fun b => Q (.bool b) h) op x y) : (go (n + 1)).ev (.cmp op a b) fr h Q := mE q
theorem eAnd {a b : IExpr} {Q : AV → Hp → Prop} (q : (go n).ev a fr h fun x h => One (truthy x h) fun t => if t then (go n).ev b fr h Q else Q x h) : (go (n + 1)).ev (.and a b) fr h Q := mE q
theorem eOr {a b : IExpr} {Q : AV → Hp → Prop} (q : (go n).ev a fr h fun x h => One (truthy x h) fun t => if t then Q x h else (go n).ev b fr h Q) : (go (n + 1)).ev (.or a b) fr h Q := mE q
theorem eIte {c a b : IExpr} {Q : AV → Hp → Prop} (q : tst (go n) c fr h fun t h => if t then (go n).ev a fr h Q else (go n).ev b fr h Q) : (go (n + 1)).ev (.ite c a b) fr h Q := mE q
theorem eAttr {o : IExpr} {x : Nat} {Q : AV → Hp → Prop} (q : (go n).ev o fr h fun o h => getAttrA h Q o x) : (go (n + 1)).ev (.attr o x) fr h Q := mE q
theorem eIdx {o i : IExpr} {Q : AV → Hp → Prop} (q : (go n).ev o fr h fun o h => (go n).ev i fr h fun i h => getIdx h (fun v => Q v h) o i) : (go (n + 1)).ev (.idx o i) fr h Q := mE q
theorem eSlice {o a b c : IExpr} {Q : AV → Hp → Prop} (q : (go n).ev o fr h fun o h => (go n).ev a fr h fun a h => (go n).ev b fr h fun b h => (go n).ev c fr h fun c h => getSlice a b c h Q o) : (go (n + 1)).ev (.slice o a b c) fr h Q := mE q
theorem eList {es : List IExpr} {Q : AV → Hp → Prop} (q : evs (go n) es fr h fun vs h => Q (.ref h.length) (h ++ [.list vs])) : (go (n + 1)).ev (.list es) fr h Q := mE q
theorem eTup {es : List IExpr} {Q : AV → Hp → Prop} (q : evs (go n) es fr h fun vs h => Q (.ref h.length) (h ++ [.tuple vs])) : (go (n + 1)).ev (.tuple es) fr h Q := mE q
theorem eDict {Q : AV → Hp → Prop} (q : Q (.ref h.length) (h ++ [.dict [] 0])) : (go (n + 1)).ev .dict0 fr h Q := mE q
theorem ePrim {p : Pr} {as : List IExpr} {Q : AV → Hp → Prop} (q : evs (go n) as fr h fun vs h => prim h Q p vs) : (go (n + 1)).ev (.prim p as) fr h Q := mE q
theorem vNil {Q : List AV → Hp → Prop} (q : Q [] h) : evs (go n) [] fr h Q := q
theorem vCons {e : IExpr} {es : List IExpr} {Q : List AV → Hp → Prop} (q : (go n).ev e fr h fun v h => evs (go n) es fr h fun vs h => Q (v :: vs) h) : evs (go n) (e :: es) fr h Q := q
theorem eCall {f : IExpr} {as : List IExpr} {kn : List Nat} {kv : List IExpr} {Q : AV → Hp → Prop} (q : (go n).ev f fr h fun f h => evs (go n) as fr h fun vs h => evs (go n) kv fr h fun us h => (go n).cl f vs (kn.zip us) h Q) : (go (n + 1)).ev (.call f as [] kn kv) fr h Q := mE q
theorem eMethD {o : IExpr} {m : Nat} {as st : List IExpr} {Q : AV → Hp → Prop} (q : (go n).ev o fr h fun o h1 => MethG (go n) as st m fr h1 Q o) : (go (n + 1)).ev (.meth o m as st) fr h Q := mE q
theorem eMeth {o : IExpr} {m : Nat} {as : List IExpr} {Q : AV → Hp → Prop} (hm : m ≤ 5) (q : (go n).ev o fr h fun ov h1 => ML ov h1 fun k => evs (go n) as fr h1 fun vs h2 => bmeth h2 k Q m vs) : (go (n + 1)).ev (.meth o m as []) fr h Q :=
 eMethD (ev_mono q fun ov h1 z => ML.casesOn z fun k xs e e1 q => e ▸ .biL e1 hm rfl q)
theorem eDget {o a : IExpr} {Q : AV → Hp → Prop} (q : (go n).ev o fr h fun ov h1 => MD ov h1 fun k => (go n).ev a fr h1 fun v h2 => MD' v h2 k fun i es => Q ((dget es i).getD .none) h2) : (go (n + 1)).ev (.meth o 6 [a] []) fr h Q :=
 eMethD (ev_mono q fun ov h1 z => MD.casesOn z fun k es ver e e1 q => e ▸ .biD e1 rfl rfl (ev_mono q fun v h2 z => MD'.casesOn z fun i es ver ev e2 q => ev ▸ .get e2 q))
theorem eSadd {o a : IExpr} {Q : AV → Hp → Prop} (q : (go n).ev o fr h fun ov h1 => MS ov h1 fun k => (go n).ev a fr h1 fun v h2 => MS' v h2 k fun i es => Q .none (h2.set k (.set (if i ∈ es then es else es ++ [i])))) : (go (n + 1)).ev (.meth o 7 [a] []) fr h Q :=
 eMethD (ev_mono q fun ov h1 z => MS.casesOn z fun k es e e1 q => e ▸ .biS e1 rfl rfl (ev_mono q fun v h2 z => MS'.casesOn z fun i es ev e2 l q => ev ▸ .add e2 l q))
theorem eOwn {o : IExpr} {m j : Nat} {as st : List IExpr} {Q : AV → Hp → Prop} (hj : prog.meths.lookup m = some j) (q : (go n).ev o fr h fun ov h1 => MI ov h1 fun k => evs (go n) as fr h1 fun vs h2 => stars (go n) st fr h2 fun ws h3 => (go n).cl (.fn j) (.ref k :: (vs ++ ws)) [] h3 Q) :
  (go (n + 1)).ev (.meth o m as st) fr h Q := eMethD (ev_mono q fun ov h1 z => MI.casesOn z fun k d e e1 q => e ▸ .own e1 hj q)
theorem bAppend {k : Nat} {xs : List AV} {v : AV} {Q : AV → Hp → Prop} (e : h[k]? = some (.list xs)) (l : xs.length ≤ 100000) (q : Q .none (h.set k (.list (xs ++ [v])))) : bmeth h k Q 0 [v] := .append e l q
theorem bExtend {k : Nat} {xs ys : List AV} {v : AV} {Q : AV → Hp → Prop} (e : h[k]? = some (.list xs)) (l : xs.length ≤ 100000) (e' : MSq h v ys) (l' : ys.length ≤ 100000) (q : Q .none (h.set k (.list (xs ++ ys)))) : bmeth h k Q 1 [v] := .extend e l e' l' q
theorem bPop0 {k : Nat} {v : AV} {xs : List AV} {Q : AV → Hp → Prop} (e : h[k]? = some (.list (v :: xs))) (l : xs.length < 100000) (q : Q v (h.set k (.list xs))) : bmeth h k Q 2 [.int 0] := .pop0 e l q
theorem bInsert {k : Nat} {xs : List AV} {i : Int} {v : AV} {Q : AV → Hp → Prop} (e : h[k]? = some (.list xs)) (l : xs.length ≤ 100000) (i0 : 0 ≤ i) (i1 : i ≤ xs.length) (q : Q .none (h.set k (.list (xs.take i.toNat ++ v :: xs.drop i.toNat)))) : bmeth h k Q 3 [.int i, v] := .insert e l i0 i1 q
theorem bClear {k : Nat} {xs : List AV} {Q : AV → Hp → Prop} (e : h[k]? = some (.list xs)) (l : xs.length ≤ 100000) (q : Q .none (h.set k (.list []))) : bmeth h k Q 4 [] := .clear e l q
theorem bIndex {k : Nat} {xs : List AV} {ns : List Int} {i : Int} {Q : AV → Hp → Prop} (e : h[k]? = some (.list xs)) (l : xs.length ≤ 100000) (e' : ints? xs = some ns) (hi : i ∈ ns) (q : Q (.int (ns.idxOf i)) h) : bmeth h k Q 5 [.int i] := .index e l e' hi q
theorem aInst {k d x : Nat} {es : List (Nat × AV)} {v : AV} {Q : AV → Hp → Prop} (e : h[k]? = some (.inst d)) (e' : h[d]? = some (.ns es)) (l : es.lookup x = some v) (q : Q v h) : getAttrA h Q (.ref k) x := .inst e e' l q
theorem aNodeV {k d : Nat} {a b c : Option AV} {v : AV} {Q : AV → Hp → Prop} (e : h[k]? = some (.node d a b c)) (l : a = some v) (q : Q v h) : getAttrA h Q (.ref k) 9 := .node e l q
theorem aNpredV {k d : Nat} {a b c : Option AV} {v : AV} {Q : AV → Hp → Prop} (e : h[k]? = some (.node d a b c)) (l : b = some v) (q : Q v h) : getAttrA h Q (.ref k) 10 := .node e l q
theorem aSuccV {k d : Nat} {a b c : Option AV} {v : AV} {Q : AV → Hp → Prop} (e : h[k]? = some (.node d a b c)) (l : c = some v) (q : Q v h) : getAttrA h Q (.ref k) 11 := .node e l q
theorem sInst {k d x : Nat} {es : List (Nat × AV)} {v : AV} {Q : Hp → Prop} (e : h[k]? = some (.inst d)) (e' : h[d]? = some (.ns es)) (l : es.length < 1000) (q : Q (h.set d (.ns (nput es x v)))) : setAttrA h Q (.ref k) x v := .inst e e' l q
theorem nf9 {a b c : Option AV} {v : AV} (y : Nat) : nodeF (some v) b c y = if y = 9 then some v else nodeF a b c y := by
 unfold nodeF
 by_cases z : y = 9
 ·subst z; rfl
 ·simp only [if_neg z]
theorem nf10 {a b c : Option AV} {v : AV} (y : Nat) : nodeF a (some v) c y = if y = 10 then some v else nodeF a b c y := by
 unfold nodeF
 by_cases z : y = 10
 ·subst z; rfl
 ·simp only [if_neg z]
theorem nf11 {a b c : Option AV} {v : AV} (y : Nat) : nodeF a b (some v) y = if y = 11 then some v else nodeF a b c y := by
 unfold nodeF
 by_cases z : y = 11
 ·subst z; rfl
 ·simp only [if_neg z]
theorem sNode {k d : Nat} {a b c : Option AV} {v : AV} {Q : Hp → Prop} (e : h[k]? = some (.node d a b c)) (q : Q (h.set k (.node d (some v) b c))) : setAttrA h Q (.ref k) 9 v := .node e (.inl rfl) nf9 q
theorem sNpred {k d : Nat} {a b c : Option AV} {v : AV} {Q : Hp → Prop} (e : h[k]? = some (.node d a b c)) (q : Q (h.set k (.node d a (some v) c))) : setAttrA h Q (.ref k) 10 v := .node e (.inr (.inl rfl)) nf10 q
theorem sSucc {k d : Nat} {a b c : Option AV} {v : AV} {Q : Hp → Prop} (e : h[k]? = some (.node d a b c)) (q : Q (h.set k (.node d a b (some v)))) : setAttrA h Q (.ref k) 11 v := .node e (.inr (.inr rfl)) nf11 q
theorem gAdd {i j : Int} {Q : AV → Prop} (q : Q (.int (i + j))) : augop Q .add (.int i) (.int j) := .add q
theorem gSub {i j : Int} {Q : AV → Prop} (q : Q (.int (i - j))) : augop Q .sub (.int i) (.int j) := .sub q
theorem oAdd {i j : Int} {Q : AV → Hp → Prop} (q : Q (.int (i + j)) h) : binop h Q .add (.int i) (.int j) := .add q
theorem oSub {i j : Int} {Q : AV → Hp → Prop} (q : Q (.int (i - j)) h) : binop h Q .sub (.int i) (.int j) := .sub q
theorem oFdiv {i j : Int} {Q : AV → Hp → Prop} (l : 0 < j ∧ j ≤ 100000) (q : Q (.int (i.fdiv j)) h) : binop h Q .fdiv (.int i) (.int j) := .fdiv l q
theorem oMul {i j : Int} {Q : AV → Hp → Prop} (l : 0 ≤ i ∧ i < 1000) (q : Q (.int (i * j)) h) : binop h Q .mul (.int i) (.int j) := .mul l q
theorem oMod {i j : Int} {Q : AV → Hp → Prop} (l : 0 < j ∧ j ≤ 100000) (q : Q (.int (i.fmod j)) h) : binop h Q .mod (.int i) (.int j) := .mod l q
theorem oCat {x y : Nat} {xs ys : List AV} {Q : AV → Hp → Prop} (e : Lst h (.ref x) xs) (e' : Lst h (.ref y) ys) (l : xs.length + ys.length ≤ 100000) (q : Q (.ref h.length) (h ++ [.list (xs ++ ys)])) : binop h Q .add (.ref x) (.ref y) := .cat e e' l q
theorem cLt {i j : Int} {Q : Bool → Prop} (q : Q (decide (i < j))) : cmpop h Q .lt (.int i) (.int j) := .lt q
theorem cLe {i j : Int} {Q : Bool → Prop} (q : Q (decide (i ≤ j))) : cmpop h Q .le (.int i) (.int j) := .le q
theorem cGe {i j : Int} {Q : Bool → Prop} (q : Q (decide (j ≤ i))) : cmpop h Q .ge (.int i) (.int j) := .ge q
theorem cEq {i j : Int} {Q : Bool → Prop} (q : Q (decide (i = j))) : cmpop h Q .eq (.int i) (.int j) := .eq q
theorem cNe {i j : Int} {Q : Bool → Prop} (q : Q (!decide (i = j))) : cmpop h Q .ne (.int i) (.int j) := .ne q
theorem cIsR {k : Nat} {Q : Bool → Prop} (q : Q false) : cmpop h Q .is (.ref k) .none := .is q
theorem cIsN {Q : Bool → Prop} (q : Q true) : cmpop h Q .is .none .none := .is q
theorem cIsI {i : Int} {Q : Bool → Prop} (q : Q false) : cmpop h Q .is (.int i) .none := .is q
theorem nat_at {α : Type} {l : List α} {m : Nat} {v : α} (e : l[m]? = some v) : l[(m : Int).toNat]? = some v := e
theorem tr_list {k : Nat} {xs : List AV} (e : h[k]? = some (.list xs)) : truthy (.ref k) h = some (!xs.isEmpty) := by
 show (h[k]?).bind truL = _
 rw [e]; rfl
variable {ss : List IStmt} {Q : AFlow → Fm → Hp → Prop}
theorem xNil (q : Q .next fr h) : exStep (go n) [] fr h Q := q
theorem xAsg {x : Nat} {e : IExpr} (q : (go n).ev e fr h fun v h => exStep (go n) ss (fr.set x v) h Q) : exStep (go n) (.asg [.var (.loc x)] e :: ss) fr h Q := mX q
theorem xAsgC {x : Nat} {e : IExpr} (q : (go n).ev e fr h fun v h => StC fr h x fun k => exStep (go n) ss fr (h.set k (.cell (some v))) Q) : exStep (go n) (.asg [.var (.cel x)] e :: ss) fr h Q := mX q
theorem xAsgA {o e : IExpr} {x : Nat} (q : (go n).ev e fr h fun v h => (go n).ev o fr h fun o h => setAttrA h (fun h => exStep (go n) ss fr h Q) o x v) : exStep (go n) (.asg [.attr o x] e :: ss) fr h Q := mX q
theorem xAsgI {o i e : IExpr} (q : (go n).ev e fr h fun v h => (go n).ev o fr h fun o h => (go n).ev i fr h fun i h => setIdx h (fun h => exStep (go n) ss fr h Q) v o i) : exStep (go n) (.asg [.idx o i] e :: ss) fr h Q := mX q
theorem xExpr {e : IExpr} (q : (go n).ev e fr h fun _ h => exStep (go n) ss fr h Q) : exStep (go n) (.expr e :: ss) fr h Q := mX q
theorem xRet {e : IExpr} (q : (go n).ev e fr h fun v h => Q (.ret v) fr h) : exStep (go n) (.ret e :: ss) fr h Q := mX q
theorem xBrk (q : Q .brk fr h) : exStep (go n) (.brk :: ss) fr h Q := mX q
theorem xCont (q : Q .cont fr h) : exStep (go n) (.cont :: ss) fr h Q := mX q
theorem xAug {x : Nat} {v : AV} {op : BOp} {e : IExpr} (ex : fr.loc x = some v) (q : (go n).ev e fr h fun y h => augop (fun z => exStep (go n) ss (fr.set x z) h Q) op v y) : exStep (go n) (.aug (.loc x) op e :: ss) fr h Q := mX ⟨v, ex, q⟩
theorem xAugA {o e : IExpr} {a : Nat} {op : BOp} (q : (go n).ev o fr h fun o h => getAttrA h (fun x h => (go n).ev e fr h fun y h => augop (fun z => setAttrA h (fun h => exStep (go n) ss fr h Q) o a z) op x y) o a) : exStep (go n) (.augAttr o a op e :: ss) fr h Q := mX q
theorem xCut {s : IStmt} (M : Fm → Hp → Prop) (q : stStep (go n) s fr h fun fl fr h => fl = .next ∧ M fr h) (q' : ∀ fr h, M fr h → exStep (go n) ss fr h Q) : exStep (go n) (s :: ss) fr h Q :=
 ⟨_, q, fun fl fr h ⟨e, m⟩ => by subst e; exact q' fr h m⟩
noncomputable abbrev XK (rest : Fm → Hp → Prop) (Q : AFlow → Fm → Hp → Prop) (fl : AFlow) (fr : Fm) (h : Hp) : Prop := match fl with
 | .next => rest fr h | fl => Q fl fr h
theorem xIte {c : IExpr} {a b : List IStmt} (q : (go n).ev c fr h fun v h => One (truthy v h) fun t => if t then (go n).ex a fr h (XK (fun fr h => exStep (go n) ss fr h Q) Q) else (go n).ex b fr h (XK (fun fr h => exStep (go n) ss fr h Q) Q)) : exStep (go n) (.ite c a b :: ss) fr h Q := mX q
theorem xIteF {c : IExpr} {a : List IStmt} (q : (go (n + 1)).ev c fr h fun v h => truthy v h = some false ∧ exStep (go (n + 1)) ss fr h Q) : exStep (go (n + 1)) (.ite c a [] :: ss) fr h Q :=
 mX (ev_mono q fun v h ⟨e, q⟩ => ⟨false, e, mX q⟩)
theorem xIteT {c : IExpr} {a b : List IStmt} (q : (go n).ev c fr h fun v h => truthy v h = some true ∧ (go n).ex a fr h (XK (fun fr h => exStep (go n) ss fr h Q) Q)) : exStep (go n) (.ite c a b :: ss) fr h Q :=
 mX (ev_mono q fun v h ⟨e, q⟩ => ⟨true, e, q⟩)
theorem xIteE {c : IExpr} {a b : List IStmt} (q : (go n).ev c fr h fun v h => truthy v h = some false ∧ (go n).ex b fr h (XK (fun fr h => exStep (go n) ss fr h Q) Q)) : exStep (go n) (.ite c a b :: ss) fr h Q :=
 mX (ev_mono q fun v h ⟨e, q⟩ => ⟨false, e, q⟩)
theorem xEnter {b : List IStmt} (q : exStep (go n) b fr h Q) : (go (n + 1)).ex b fr h Q := mX q
noncomputable abbrev LK (J B : Fm → Hp → Prop) (R : AV → Fm → Hp → Prop) (fl : AFlow) (fr : Fm) (h : Hp) : Prop := match fl with
 | .next => J fr h | .cont => J fr h | .brk => B fr h | .ret v => R v fr h
inductive Lss (I : Nat → Fm → Hp → Prop) (m : Nat) (fr : Fm) (h : Hp) : Prop | mk (m' : Nat) (l : m' < m) (i : I m' fr h)
theorem xWhile {c : IExpr} {a b : List IStmt} (I : Nat → Fm → Hp → Prop) (m : Nat) (hm : m < wB) (i : I m fr h)
  (step : ∀ m fr h, I m fr h → (go n).ev c fr h fun v h => One (truthy v h) fun t => if t then (go n).ex a fr h (LK (Lss I m) (fun fr h => exStep (go n) ss fr h Q) fun v => Q (.ret v)) else (go n).ex b fr h (XK (fun fr h => exStep (go n) ss fr h Q) Q)) : exStep (go n) (.while c a b :: ss) fr h Q := by
 suffices key : ∀ (V m : Nat) (fr : Fm) (h : Hp), m < V → I m fr h → loopW (go n) c a b (XK (fun fr h => exStep (go n) ss fr h Q) Q) V fr h from mX (key wB m fr h hm i)
 intro V
 induction V with
 | zero => exact fun m fr h l => absurd l (Nat.not_lt_zero m)
 | succ V ih => exact fun m fr h l i => tst_mono (step m fr h i) fun t h => Bool.casesOn t id fun q => ex_mono (Q := LK (Lss I m) (fun fr h => exStep (go n) ss fr h Q) fun v => Q (.ret v)) q fun fl fr h =>
   have g : Lss I m fr h → loopW (go n) c a b (XK (fun fr h => exStep (go n) ss fr h Q) Q) V fr h := fun q => Lss.casesOn q fun m' l' i' => ih m' fr h (Nat.lt_of_lt_of_le l' (Nat.le_of_lt_succ l)) i'
   AFlow.casesOn fl g id g fun _ => id
end
section
variable {n : Nat} {fr : Fm} {h : Hp} {ss : List IStmt} {Q : AFlow → Fm → Hp → Prop}
theorem src_seq {e : IExpr} {K : List Item → (Hp → Prop) → Hp → Prop} (q : (go n).ev e fr h fun v h => SrS h K v) : srcE (go n) (.seq e) fr h K := q
noncomputable def ForK (r : Rec) (rest : Fm → Hp → Prop) (pat : IPat) (a : List IStmt) (Q : AFlow → Fm → Hp → Prop) (fr : Fm) (items : List Item) (chk : Hp → Prop) (h : Hp) : Prop :=
 loopF chk (fun it fr h Q => bindPat fr h (fun fr h => r.ex a fr h Q) pat it) (fun fl fr h => match fl with | .next => rest fr h | fl => Q fl fr h) items fr h
theorem xFor {pat : IPat} {src : ISrc} {a : List IStmt} (q : srcE (go n) src fr h (ForK (go n) (fun fr h => exStep (go n) ss fr h Q) pat a Q fr)) : exStep (go n) (.for pat src a :: ss) fr h Q := mX q
theorem fkI {α : Type} {pat : IPat} {a : List IStmt} {rest : Fm → Hp → Prop} {its : List Item} {chk : Hp → Prop} (ι : α → Item) (as : List α) (I : List α → Fm → Hp → Prop) (hits : its = as.map ι) (i0 : I as fr h) (hc : ∀ as fr h, I as fr h → chk h)
  (step : ∀ x xs fr h, I (x :: xs) fr h → bindPat fr h (fun fr h => exStep (go n) a fr h (LK (I xs) rest fun v => Q (.ret v))) pat (ι x))
  (fin : ∀ fr h, I [] fr h → rest fr h) : ForK (go (n + 1)) rest pat a Q fr its chk h := by
 subst hits
 suffices key : ∀ rs fr h, I rs fr h → loopF chk (fun it fr h Q => bindPat fr h (fun fr h => (go (n + 1)).ex a fr h Q) pat it) (fun fl fr h => match fl with | .next => rest fr h | fl => Q fl fr h) (rs.map ι) fr h from key as fr h i0
 intro rs
 induction rs with
 | nil => exact fun fr h j => ⟨hc _ _ _ j, fin fr h j⟩
 | cons x rs ih => exact fun fr h j => ⟨hc _ _ _ j, mX (bindPat_mono (step x rs fr h j) fun fr h q => ⟨_, q, fun fl fr h => AFlow.casesOn fl (ih fr h) id (ih fr h) fun _ => id⟩)⟩
theorem fkD {α : Type} {pat : IPat} {a : List IStmt} {rest : Fm → Hp → Prop} {its : List Item} {chk : Hp → Prop} (ι : α → Item) (as : List α) (J : List α → Fm → Hp → Prop) (hits : its = as.map ι) (i0 : J [] fr h) (hc : ∀ ds fr h, J ds fr h → chk h)
  (step : ∀ ds x rs fr h, as = ds ++ x :: rs → J ds fr h → bindPat fr h (fun fr h => exStep (go n) a fr h (LK (J (ds ++ [x])) rest fun v => Q (.ret v))) pat (ι x))
  (fin : ∀ fr h, J as fr h → rest fr h) : ForK (go (n + 1)) rest pat a Q fr its chk h := by
 subst hits
 suffices key : ∀ rs ds fr h, as = ds ++ rs → J ds fr h → loopF chk (fun it fr h Q => bindPat fr h (fun fr h => (go (n + 1)).ex a fr h Q) pat it) (fun fl fr h => match fl with | .next => rest fr h | fl => Q fl fr h) (rs.map ι) fr h from key as [] fr h rfl i0
 intro rs
 induction rs with
 | nil => exact fun ds fr h e j => ⟨hc _ _ _ j, fin fr h ((e.trans (List.append_nil ds)) ▸ j)⟩
 | cons x rs ih => exact fun ds fr h e j => ⟨hc _ _ _ j, mX (bindPat_mono (step ds x rs fr h e j) fun fr h q => ⟨_, q, fun fl fr h => AFlow.casesOn fl (ih _ fr h (e.trans (List.append_cons ds x rs))) id (ih _ fr h (e.trans (List.append_cons ds x rs))) fun _ => id⟩)⟩
theorem xForD {α : Type} {x k : Nat} {e : IExpr} {a : List IStmt} {o : AObj} (ι : α → AV) (as : List α) (J : List α → Fm → Hp → Prop) (he : (go (n + 1)).ev e fr h fun v h' => v = .ref k ∧ h' = h) (ho : h[k]? = some o) (hit : itemsOf o = some (as.map ι)) (i0 : J [] fr h) (hc : ∀ ds fr h, J ds fr h → h[k]? = some o)
  (step : ∀ ds v rs fr h, as = ds ++ v :: rs → J ds fr h → exStep (go n) a (fr.set x (ι v)) h (LK (J (ds ++ [v])) (fun fr h => exStep (go (n + 1)) ss fr h Q) fun v => Q (.ret v)))
  (fin : ∀ fr h, J as fr h → exStep (go (n + 1)) ss fr h Q) : exStep (go (n + 1)) (.for (.one (.loc x)) (.seq e) a :: ss) fr h Q :=
 xFor (src_seq (ev_mono he fun v h' z => z.1 ▸ z.2 ▸ .mk ho hit (fkD (fun v => .one (ι v)) as J List.map_map i0 hc (fun ds v rs fr h e j => .mk (step ds v rs fr h e j)) fin)))
end
noncomputable def F0 (b : List (Nat × AV)) : Fm := ⟨fun x => b.lookup x, fun _ => none⟩
theorem cFn0 {n : Nat} {h : Hp} {k : Nat} {f : IFn} {as : List AV} {kw b : List (Nat × AV)} {h1 : Hp} {Q : AV → Hp → Prop} (hf : prog.fns[k]? = some f) (hd : f.isDef = true) (hc : f.cells = []) (hb : abind f as kw h = some (b, h1)) (q : exStep (go n) f.body (F0 b) h1 (onRet Q)) : (go (n + 1 + 1)).cl (.fn k) as kw h Q := by
 refine mE (.fn hf hd ⟨b, h1, hb, mX ?_⟩)
 have e1 : (enterF f [] b h1).1 = F0 b := by
  unfold enterF F0
  rw [hc]
  simp only [List.contains_nil, Bool.false_eq_true, if_false, cellIdx, List.lookup_nil, Option.or_none]
 have e2 : (enterF f [] b h1).2 = h1 := by unfold enterF; rw [hc]; exact List.append_nil _
 rw [e1, e2]
 exact q
end Mine
namespace Mine
structure Sr where
 ks : List Int
 np : Int → Int
 su : Int → List Int
 rd : Option (List Int)
 pa : Int
 fi : Int
noncomputable def upd {α : Type} (f : Int → α) (i : Int) (v : α) : Int → α := fun j => if j = i then v else f j
theorem upd_eq {α : Type} (f : Int → α) (i : Int) (v : α) : upd f i v i = v := if_pos rfl
theorem upd_ne {α : Type} {f : Int → α} {i j : Int} {v : α} (h : j ≠ i) : upd f i v j = f j := if_neg h
noncomputable def Sr.info (S : Sr) (i : Int) : Sr := if i ∈ S.ks then S else { S with ks := S.ks ++ [i], np := upd S.np i 0, su := upd S.su i [] }
structure Wit where
 d : Nat
 kd : Nat
 ver : Nat
 kr : Nat
 na : Int → Nat
 sa : Int → Nat
noncomputable def rdV (rd : Option (List Int)) (kr : Nat) : AV := match rd with
 | none => .none
 | some _ => .ref kr
structure RS (h : Hp) (k : Nat) (F : Nat → Prop) (S : Sr) (w : Wit) : Prop where
 inst : h[k]? = some (.inst w.d)
 ns : h[w.d]? = some (.ns [(14, .ref w.kd), (15, rdV S.rd w.kr), (16, .int S.pa), (17, .int S.fi)])
 dict : h[w.kd]? = some (.dict (S.ks.map fun i => (i, .ref (w.na i))) w.ver)
 rdy : ∀ l, S.rd = some l → h[w.kr]? = some (.list (l.map .int)) ∧ F w.kr ∧ ∀ i ∈ S.ks, w.sa i ≠ w.kr
 node : ∀ i ∈ S.ks, ∃ di, h[w.na i]? = some (.node di (some (.int i)) (some (.int (S.np i))) (some (.ref (w.sa i))))
 suc : ∀ i ∈ S.ks, h[w.sa i]? = some (.list ((S.su i).map .int))
 sinj : ∀ i ∈ S.ks, ∀ j ∈ S.ks, w.sa i = w.sa j → i = j
 nd : S.ks.Nodup
 own : F w.d ∧ F w.kd ∧ ∀ i ∈ S.ks, F (w.na i) ∧ F (w.sa i)
 old : ∀ j, F j → j < h.length
structure Kp (F : Nat → Prop) (h h' : Hp) : Prop where
 len : h.length ≤ h'.length
 keep : ∀ (j : Nat) (o : AObj), ¬F j → h[j]? = some o → h'[j]? = some o
theorem Kp.refl {F : Nat → Prop} {h : Hp} : Kp F h h := ⟨Nat.le_refl _, fun _ _ _ e => e⟩
theorem Kp.trans {F F' : Nat → Prop} {h h' h'' : Hp} (a : Kp F h h') (b : Kp F' h' h'') (g : ∀ j, F' j → F j ∨ h.length ≤ j) : Kp F h h'' :=
 ⟨Nat.le_trans a.len b.len, fun j o hj e => b.keep j o (fun z => (g j z).elim hj fun l => by have := (List.getElem?_eq_some_iff.mp e).1; exact Z2 this l) (a.keep j o hj e)⟩
theorem lt_of_get {α : Type} {l : List α} {k : Nat} {o : α} (e : l[k]? = some o) : k < l.length := (List.getElem?_eq_some_iff.mp e).1
theorem get_app {h : Hp} {k : Nat} {o : AObj} {t : Hp} (e : h[k]? = some o) : (h ++ t)[k]? = some o := by rw [List.getElem?_append_left (lt_of_get e)]; exact e
theorem get_set {h : Hp} {k j : Nat} {o x : AObj} (e : h[j]? = some x) (n : k ≠ j) : (h.set k o)[j]? = some x := by rw [List.getElem?_set_ne n]; exact e
theorem get_self {h : Hp} {k : Nat} {o x : AObj} (e : h[k]? = some x) : (h.set k o)[k]? = some o := by rw [List.getElem?_set_self (lt_of_get e)]
theorem ne_of_get {h : Hp} {k j : Nat} {o x : AObj} (e : h[k]? = some o) (e' : h[j]? = some x) (n : o ≠ x) : k ≠ j := fun z => by subst z; rw [e] at e'; cases e'; exact n rfl
theorem dget_map {na : Int → Nat} {i : Int} : ∀ {ks : List Int}, dget (ks.map fun i => (i, AV.ref (na i))) i = if i ∈ ks then some (.ref (na i)) else none
 | [] => by simp [dget]
 | k :: ks => by
  have ih := dget_map (na := na) (i := i) (ks := ks)
  unfold dget at ih ⊢
  simp only [List.map_cons, List.lookup_cons]
  by_cases e : i = k
  ·subst e; simp
  ·have : (i == k) = false := by simpa using e
   rw [this, ih]
   simp [e]
theorem dget_in {na : Int → Nat} {i : Int} {ks : List Int} (h : i ∈ ks) : dget (ks.map fun i => (i, AV.ref (na i))) i = some (.ref (na i)) := dget_map.trans (if_pos h)
theorem dput_map {na : Int → Nat} {i : Int} {a : Nat} : ∀ {ks : List Int}, i ∉ ks → dput (ks.map fun i => (i, AV.ref (na i))) i (.ref a) = (ks ++ [i]).map fun j => (j, AV.ref (upd na i a j))
 | [], _ => by simp [dput, upd_eq]
 | k :: ks, hn => by
  have hk : k ≠ i := fun z => hn (z ▸ .head _)
  simp only [List.map_cons, List.cons_append, dput]
  rw [if_neg hk, dput_map (fun z => hn (.tail _ z)), upd_ne hk]
section
variable {n : Nat} {h : Hp} {Q : AV → Hp → Prop}
theorem f0_spec {k d : Nat} {i : Int} (e : h[k]? = some (.node d none none none)) (q : Q .none (h.set k (.node d (some (.int i)) (some (.int 0)) (some (.ref h.length))) ++ [.list []])) : (go (n + 5)).cl (.fn 0) [.ref k, .int i] [] h Q := by
 refine cFn0 (f := f0) (b := [(12, .ref k), (9, .int i)]) (h1 := h) rfl rfl rfl rfl ?_
 refine xAsgA (eLoc rfl (eLoc rfl (sNode e ?_)))
 refine xAsgA (eInt (eLoc rfl (sNpred (get_self e) ?_)))
 refine xAsgA (eList (vNil (eLoc rfl (sSucc (get_app (get_self (get_self e))) (xNil ?_)))))
 show Q .none _
 rw [List.set_append_left _ _ (by simpa using lt_of_get e), List.set_set, List.set_set, List.length_set, List.length_set]
 exact q
noncomputable def S0 : Sr := ⟨[], fun _ => 0, fun _ => [], none, 0, 0⟩
theorem new_spec (q : ∀ h' k F w, RS h' k F S0 w → Kp (fun _ => False) h h' → (∀ j, F j → h.length ≤ j) → ¬F k → h.length ≤ k → Q (.ref k) h') : (go (n + 7)).cl (.cls false) [] [] h Q := by
 refine mE (.ts ?_)
 show (go (n + 6)).cl (.fn 1) _ _ _ _
 refine cFn0 (f := f1) (b := [(12, .ref (h.length + 1)), (13, .none)]) (h1 := h ++ [.ns [], .inst h.length]) rfl rfl rfl rfl ?_
 have i0 : (h ++ [AObj.ns [], AObj.inst h.length])[h.length + 1]? = some (.inst h.length) := by simp
 have d0 : (h ++ [AObj.ns [], AObj.inst h.length])[h.length]? = some (.ns []) := by simp
 have ne : h.length ≠ h.length + 1 := by exact Z1 0
 refine xAsgA (eDict (eLoc rfl (sInst (d := h.length) (get_app i0) (get_app d0) (by decide) ?_)))
 refine xAsgA (eNone (eLoc rfl (sInst (d := h.length) (get_set (get_app i0) ne) (get_self (get_app d0)) (show (1 : Nat) < 1000 from by decide) ?_)))
 refine xAsgA (eInt (eLoc rfl (sInst (d := h.length) (get_set (get_set (get_app i0) ne) ne) (get_self (get_self (get_app d0))) (show (2 : Nat) < 1000 from by decide) ?_)))
 refine xAsgA (eInt (eLoc rfl (sInst (d := h.length) (get_set (get_set (get_set (get_app i0) ne) ne) ne) (get_self (get_self (get_self (get_app d0)))) (show (3 : Nat) < 1000 from by decide) ?_)))
 refine xIteF (eCmp (eLoc rfl (eNone (.isn (⟨rfl, xNil ⟨rfl, ?_⟩⟩)))))
 have el : (h ++ [AObj.ns [], AObj.inst h.length]).length = h.length + 2 := by simp
 rw [List.set_set, List.set_set, List.set_set, el]
 refine q _ (h.length + 1) (fun j => j = h.length ∨ j = h.length + 2) ⟨h.length, h.length + 2, 0, 0, fun _ => 0, fun _ => 0⟩ ⟨get_set (get_app i0) ne, get_self (get_app d0), get_set (by simp [S0]) (by simp), nofun, nofun, nofun, nofun, .nil, ⟨.inl rfl, .inr rfl, nofun⟩, fun j hj => ?_⟩ ⟨by simp, fun j o _ e => get_set (get_app (get_app e)) (by have := lt_of_get e; lia)⟩ (fun j hj => by lia) (by lia) (by exact Nat.le_succ (List.length h))
 simp; lia
end
end Mine
namespace Mine
section
variable {n : Nat} {h : Hp} {Q : AV → Hp → Prop} {k : Nat} {F : Nat → Prop} {S : Sr} {w : Wit}
structure Aft (h : Hp) (F : Nat → Prop) (k : Nat) (S' : Sr) (h' : Hp) (F' : Nat → Prop) (w' : Wit) : Prop where
 rs : RS h' k F' S' w'
 kp : Kp F h h'
 fo : ∀ j, F' j → F j ∨ h.length ≤ j
theorem f2_spec {i : Int} (R : RS h k F S w) (hl : S.ks.length ≤ 1000) (hkF : ¬F k) (q : ∀ h' F' w', Aft h F k (S.info i) h' F' w' → Q (.ref (w'.na i)) h') : (go (n + 14)).cl (.fn 2) [.ref k, .int i] [] h Q := by
 refine cFn0 (f := f2) (b := [(12, .ref k), (9, .int i)]) (h1 := h) rfl rfl rfl rfl ?_
 refine mX ?_
 show (go (n + 12)).ev _ _ _ _
 refine eDget (eAttr (eLoc rfl (aInst R.inst R.ns rfl ⟨w.kd, _, _, rfl, R.dict, eLoc rfl ⟨i, _, _, rfl, R.dict, ?_⟩⟩)))
 rw [dget_map]
 by_cases hi : i ∈ S.ks
 ·rw [if_pos hi]
  refine .some rfl ?_
  show exStep _ _ _ _ _
  refine xRet (eLoc rfl (q h F w ⟨?_, .refl, fun j z => .inl z⟩))
  unfold Sr.info; rw [if_pos hi]; exact R
 ·rw [if_neg hi]
  refine .none ?_
  show (go (n + 12)).ex _ _ _ _
  refine xEnter ?_
  refine mX ?_
  show (go (n + 11)).ev _ _ _ _
  refine eCall (eCls (vCons (eLoc rfl (vNil (vNil ?_)))))
  refine mE (.nd ?_)
  show (go (n + 9)).cl (.fn 0) _ _ _ _
  have e0 : (h ++ [AObj.hid, AObj.node h.length none none none])[h.length + 1]? = some (.node h.length none none none) := by simp
  refine f0_spec (n := n + 4) e0 ⟨rfl, ?_⟩
  have el : (h ++ [AObj.hid, AObj.node h.length none none none]).length = h.length + 2 := by simp
  have es : ((h ++ [AObj.hid, AObj.node h.length none none none]).set (h.length + 1) (.node h.length (some (.int i)) (some (.int 0)) (some (.ref (h.length + 2)))) ++ [.list []]) = h ++ [.hid, .node h.length (some (.int i)) (some (.int 0)) (some (.ref (h.length + 2))), .list []] := by
   rw [List.set_append_right _ _ (by exact Nat.le_succ (List.length h))]
   simp
  rw [el, es]
  have g := fun (j : Nat) (o : AObj) (e : h[j]? = some o) => get_app (t := [.hid, .node h.length (some (.int i)) (some (.int 0)) (some (.ref (h.length + 2))), .list []]) e
  have lk := lt_of_get R.dict
  have lok : ∀ {j : Nat} {o : AObj}, h[j]? = some o → j < h.length := fun e => lt_of_get e
  refine eAttr (eLoc rfl (aInst (g _ _ R.inst) (g _ _ R.ns) rfl (eLoc rfl (.dict (g _ _ R.dict) (by simp; exact Z14 hl (Nat.le_add_left 1000 99000)) fun n' => ?_))))
  rw [dput_map hi]
  have gd := fun (j : Nat) (o : AObj) (e : h[j]? = some o) (ne : w.kd ≠ j) => get_set (o := .dict ((S.ks ++ [i]).map fun j => (j, AV.ref (upd w.na i (h.length + 1) j))) n') (g j o e) ne
  show exStep (go (n + 12)) [.ret (.loc 19)] _ _ _
  refine xRet (eLoc rfl ?_)
  have fin := fun A => q ((h ++ [AObj.hid, AObj.node h.length (some (.int i)) (some (.int 0)) (some (.ref (h.length + 2))), AObj.list []]).set w.kd (.dict ((S.ks ++ [i]).map fun j => (j, AV.ref (upd w.na i (h.length + 1) j))) n')) (fun j => F j ∨ h.length ≤ j ∧ j < h.length + 3) ⟨w.d, w.kd, n', w.kr, upd w.na i (h.length + 1), upd w.sa i (h.length + 2)⟩ A
  dsimp only at fin
  rw [upd_eq] at fin
  refine fin ?_
  have hne : ∀ j ∈ S.ks, j ≠ i := fun j hj z => hi (z ▸ hj)
  unfold Sr.info; rw [if_neg hi]
  refine ⟨⟨gd _ _ R.inst (ne_of_get R.dict R.inst nofun), gd _ _ R.ns (ne_of_get R.dict R.ns nofun), get_self (g _ _ R.dict), fun l hl => ?_, fun j hj => ?_, fun j hj => ?_, fun j hj j' hj' e => ?_, ?_, ⟨.inl R.own.1, .inl R.own.2.1, fun j hj => ?_⟩, fun j hj => ?_⟩, ⟨by simp, fun j o hj e => gd j o e fun z => hj (z ▸ R.own.2.1)⟩, fun j hj => hj.imp id fun z => z.1⟩
  all_goals try dsimp only
  ·obtain ⟨a1, a2, a3⟩ := R.rdy l hl
   refine ⟨gd _ _ a1 (ne_of_get R.dict a1 nofun), .inl a2, fun j hj => ?_⟩
   rcases List.mem_append.mp hj with z | z
   ·rw [upd_ne (hne j z)]; exact a3 j z
   ·rw [List.mem_singleton.mp z, upd_eq]; have := lok a1; show h.length + 2 ≠ w.kr; exact Z20 2 this
  ·rcases List.mem_append.mp hj with z | z
   ·obtain ⟨di, a1⟩ := R.node j z
    rw [upd_ne (hne j z), upd_ne (hne j z), upd_ne (hne j z)]
    exact ⟨di, gd _ _ a1 (ne_of_get R.dict a1 nofun)⟩
   ·rw [List.mem_singleton.mp z, upd_eq, upd_eq, upd_eq]
    exact ⟨h.length, by rw [List.getElem?_set_ne (show w.kd ≠ h.length + 1 by exact Z19 1 lk)]; simp⟩
  ·rcases List.mem_append.mp hj with z | z
   ·rw [upd_ne (hne j z), upd_ne (hne j z)]
    exact gd _ _ (R.suc j z) (ne_of_get R.dict (R.suc j z) nofun)
   ·rw [List.mem_singleton.mp z, upd_eq, upd_eq]
    rw [List.getElem?_set_ne (show w.kd ≠ h.length + 2 by exact Z19 2 lk)]; simp
  ·have big : ∀ j ∈ S.ks, w.sa j < h.length := fun j hj => lok (R.suc j hj)
   dsimp only at e
   rcases List.mem_append.mp hj with z | z <;> rcases List.mem_append.mp hj' with z' | z'
   ·rw [upd_ne (hne j z), upd_ne (hne j' z')] at e; exact R.sinj j z j' z' e
   ·rw [upd_ne (hne j z), List.mem_singleton.mp z', upd_eq] at e; have := big j z; exact Z2 this (Z18 e)
   ·rw [upd_ne (hne j' z'), List.mem_singleton.mp z, upd_eq] at e; have := big j' z'; exact Z2 this (Z18 (Eq.symm e))
   ·rw [List.mem_singleton.mp z, List.mem_singleton.mp z']
  ·exact List.nodup_append.mpr ⟨R.nd, by simp, fun a ha b hb z => hi (by rw [← List.mem_singleton.mp hb, ← z]; exact ha)⟩
  ·rcases List.mem_append.mp hj with z | z
   ·rw [upd_ne (hne j z), upd_ne (hne j z)]; exact ⟨.inl (R.own.2.2 j z).1, .inl (R.own.2.2 j z).2⟩
   ·rw [List.mem_singleton.mp z, upd_eq, upd_eq]; exact ⟨.inr ⟨by exact Nat.le_succ (List.length h), by exact Z17 (Nat.le_succ (List.length h + 1))⟩, .inr ⟨by exact Nat.le_add_right (List.length h) 2, by exact Nat.lt_succ_self (List.length h + 2)⟩⟩
  ·rcases hj with z | z
   ·have := R.old j z; simp; exact Z16 (Nat.add_lt_add_right this 3)
   ·simp; exact And.right z
end
end Mine
namespace Mine
section
variable {h : Hp} {k : Nat} {F : Nat → Prop} {S : Sr} {w : Wit}
theorem RS.ninj (R : RS h k F S w) {i j : Int} (hi : i ∈ S.ks) (hj : j ∈ S.ks) (e : w.na i = w.na j) : i = j := by
 obtain ⟨_, a⟩ := R.node i hi
 obtain ⟨_, b⟩ := R.node j hj
 rw [e, b] at a
 cases a; rfl
theorem Kp.set {a : Nat} {o : AObj} (ha : F a) : Kp F h (h.set a o) := ⟨by simp, fun j x hj e => get_set e fun z => hj (z ▸ ha)⟩
theorem RS.setNp (R : RS h k F S w) {i : Int} (hi : i ∈ S.ks) {di : Nat} (e : h[w.na i]? = some (.node di (some (.int i)) (some (.int (S.np i))) (some (.ref (w.sa i))))) (v : Int) :
  Aft h F k { S with np := upd S.np i v } (h.set (w.na i) (.node di (some (.int i)) (some (.int v)) (some (.ref (w.sa i))))) F w := by
 refine ⟨⟨get_set R.inst (ne_of_get e R.inst nofun), get_set R.ns (ne_of_get e R.ns nofun), get_set R.dict (ne_of_get e R.dict nofun), fun l hl => ?_, fun j hj => ?_, fun j hj => get_set (R.suc j hj) (ne_of_get e (R.suc j hj) nofun), R.sinj, R.nd, R.own, fun j hj => by simpa using R.old j hj⟩, .set (R.own.2.2 i hi).1, fun j z => .inl z⟩
 ·obtain ⟨a1, a2, a3⟩ := R.rdy l hl
  exact ⟨get_set a1 (ne_of_get e a1 nofun), a2, a3⟩
 ·by_cases z : j = i
  ·subst z; exact ⟨di, by rw [get_self e]; show _ = some (AObj.node di _ (some (.int (upd S.np j v j))) _); rw [upd_eq]⟩
  ·obtain ⟨dj, a⟩ := R.node j hj
   refine ⟨dj, ?_⟩
   show _ = some (AObj.node dj _ (some (.int (upd S.np i v j))) _)
   rw [upd_ne z]
   exact get_set a fun q => z (R.ninj hi hj q).symm
theorem RS.setSu (R : RS h k F S w) {i : Int} (hi : i ∈ S.ks) (l : List Int) : Aft h F k { S with su := upd S.su i l } (h.set (w.sa i) (.list (l.map .int))) F w := by
 have e := R.suc i hi
 refine ⟨⟨get_set R.inst (ne_of_get e R.inst nofun), get_set R.ns (ne_of_get e R.ns nofun), get_set R.dict (ne_of_get e R.dict nofun), fun l hl => ?_, fun j hj => ?_, fun j hj => ?_, R.sinj, R.nd, R.own, fun j hj => by simpa using R.old j hj⟩, .set (R.own.2.2 i hi).2, fun j z => .inl z⟩
 ·obtain ⟨a1, a2, a3⟩ := R.rdy l hl
  exact ⟨get_set a1 (a3 i hi), a2, a3⟩
 ·obtain ⟨dj, a⟩ := R.node j hj
  exact ⟨dj, get_set a (ne_of_get e a nofun)⟩
 ·by_cases z : j = i
  ·subst z; rw [get_self e]; show _ = some (AObj.list ((upd S.su j l j).map .int)); rw [upd_eq]
  ·show _ = some (AObj.list ((upd S.su i l j).map .int))
   rw [upd_ne z]
   exact get_set (R.suc j hj) fun q => z (R.sinj i hi j hj q).symm
theorem RS.setRd (R : RS h k F S w) {l : List Int} (hl : S.rd = some l) (l' : List Int) : Aft h F k { S with rd := some l' } (h.set w.kr (.list (l'.map .int))) F w := by
 obtain ⟨e, a2, a3⟩ := R.rdy l hl
 have ns := R.ns
 rw [hl] at ns
 refine ⟨⟨get_set R.inst (ne_of_get e R.inst nofun), get_set ns (ne_of_get e ns nofun), get_set R.dict (ne_of_get e R.dict nofun), fun l hl => ⟨?_, a2, a3⟩, fun j hj => ?_, fun j hj => get_set (R.suc j hj) (a3 j hj).symm, R.sinj, R.nd, R.own, fun j hj => by simpa using R.old j hj⟩, .set a2, fun j z => .inl z⟩
 ·cases hl; exact get_self e
 ·obtain ⟨dj, a⟩ := R.node j hj
  exact ⟨dj, get_set a (ne_of_get e a nofun)⟩
theorem RS.setNs (R : RS h k F S w) (pa fi : Int) : Aft h F k { S with pa := pa, fi := fi } (h.set w.d (.ns [(14, .ref w.kd), (15, rdV S.rd w.kr), (16, .int pa), (17, .int fi)])) F w := by
 have e := R.ns
 refine ⟨⟨get_set R.inst (ne_of_get e R.inst nofun), get_self e, get_set R.dict (ne_of_get e R.dict nofun), fun l hl => ?_, fun j hj => ?_, fun j hj => get_set (R.suc j hj) (ne_of_get e (R.suc j hj) nofun), R.sinj, R.nd, R.own, fun j hj => by simpa using R.old j hj⟩, .set R.own.1, fun j z => .inl z⟩
 ·obtain ⟨a1, a2, a3⟩ := R.rdy l hl
  exact ⟨get_set a1 (ne_of_get e a1 nofun), a2, a3⟩
 ·obtain ⟨dj, a⟩ := R.node j hj
  exact ⟨dj, get_set a (ne_of_get e a nofun)⟩
theorem RS.grow (R : RS h k F S w) (t : Hp) : RS (h ++ t) k F S w :=
 ⟨get_app R.inst, get_app R.ns, get_app R.dict, fun l hl => let ⟨a1, a2, a3⟩ := R.rdy l hl; ⟨get_app a1, a2, a3⟩, fun j hj => let ⟨dj, a⟩ := R.node j hj; ⟨dj, get_app a⟩, fun j hj => get_app (R.suc j hj), R.sinj, R.nd, R.own, fun j hj => by have := R.old j hj; simp; exact Z16 (Nat.add_lt_add_right this (List.length t))⟩
theorem Aft.trans {h h1 h2 : Hp} {F F1 F2 : Nat → Prop} {S1 S2 : Sr} {w1 w2 : Wit} (a : Aft h F k S1 h1 F1 w1) (b : Aft h1 F1 k S2 h2 F2 w2) : Aft h F k S2 h2 F2 w2 :=
 ⟨b.rs, a.kp.trans b.kp a.fo, fun j z => (b.fo j z).elim (a.fo j) fun l => .inr (Nat.le_trans a.kp.len l)⟩
theorem Aft.grow {h h1 : Hp} {F F1 : Nat → Prop} {S1 : Sr} {w1 : Wit} (a : Aft h F k S1 h1 F1 w1) (t : Hp) : Aft h F k S1 (h1 ++ t) F1 w1 :=
 ⟨a.rs.grow t, ⟨by have := a.kp.len; simp; exact Z21 (Nat.add_le_add_right this (List.length t)), fun j o hj e => get_app (a.kp.keep j o hj e)⟩, a.fo⟩
theorem RS.aft (R : RS h k F S w) : Aft h F k S h F w := ⟨R, .refl, fun _ z => .inl z⟩
theorem Aft.kept {h h1 : Hp} {F F1 : Nat → Prop} {S1 : Sr} {w1 : Wit} (a : Aft h F k S1 h1 F1 w1) {j : Nat} {o : AObj} (hj : ¬F j) (e : h[j]? = some o) : ¬F1 j ∧ h1[j]? = some o :=
 ⟨fun z => (a.fo j z).elim hj fun l => by have := lt_of_get e; exact Z2 this l, a.kp.keep j o hj e⟩
end
theorem info_mem {S : Sr} {i : Int} : i ∈ (S.info i).ks := by unfold Sr.info; split <;> simp [*]
theorem info_ks {S : Sr} {i j : Int} (h : j ∈ S.ks) : j ∈ (S.info i).ks := by unfold Sr.info; split <;> simp [*]
theorem info_len {S : Sr} {i : Int} : (S.info i).ks.length ≤ S.ks.length + 1 := by unfold Sr.info; split <;> simp
theorem info_rd {S : Sr} {i : Int} : (S.info i).rd = S.rd := by unfold Sr.info; split <;> rfl
noncomputable def Sr.link (S : Sr) (i p : Int) : Sr := { S.info p with su := upd (S.info p).su p ((S.info p).su p ++ [i]) }
noncomputable def Sr.add (S : Sr) (i : Int) (ps : List Int) : Sr := ps.foldl (fun S p => S.link i p) { S.info i with np := upd (S.info i).np i ((S.info i).np i + ps.length) }
theorem info_su {S : Sr} {i j : Int} : ((S.info i).su j).length ≤ (S.su j).length := by
 unfold Sr.info
 split
 ·exact Nat.le_refl _
 ·show (upd S.su i [] j).length ≤ _
  unfold upd; split <;> simp
theorem link_len {i : Int} : ∀ (ds : List Int) (S : Sr), (ds.foldl (fun S p => S.link i p) S).ks.length ≤ S.ks.length + ds.length ∧ (∀ j, ((ds.foldl (fun S p => S.link i p) S).su j).length ≤ (S.su j).length + ds.length) ∧ (ds.foldl (fun S p => S.link i p) S).rd = S.rd
 | [], S => ⟨by simp, fun j => by simp, rfl⟩
 | d :: ds, S => by
  obtain ⟨a, b, c⟩ := link_len (i := i) ds (S.link i d)
  have l1 : (S.link i d).ks.length ≤ S.ks.length + 1 := info_len
  have l2 : ∀ j, ((S.link i d).su j).length ≤ (S.su j).length + 1 := fun j => by
   show (upd (S.info d).su d _ j).length ≤ _
   have := info_su (S := S) (i := d) (j := j)
   unfold upd; split
   ·rename_i e; subst e; simp; exact this
   ·lia
  simp only [List.foldl_cons, List.length_cons]
  refine ⟨by lia, fun j => ?_, c.trans info_rd⟩
  have := b j; have := l2 j; lia
section
variable {n : Nat} {h : Hp} {Q : AV → Hp → Prop} {k : Nat} {F : Nat → Prop} {S : Sr} {w : Wit}
inductive AdJ (h0 : Hp) (k : Nat) (F : Nat → Prop) (i : Int) (T : Sr) (fr : Fm) (h' : Hp) : Prop | mk (F' : Nat → Prop) (w' : Wit) (g12 : fr.loc 12 = some (.ref k)) (g9 : fr.loc 9 = some (.int i)) (A : Aft h0 F k T h' F' w') : AdJ h0 k F i T fr h'
theorem Aft.cut {t : Hp} {T : Sr} {h' : Hp} {F' : Nat → Prop} {w' : Wit} (A : Aft (h ++ t) F k T h' F' w') : Aft h F k T h' F' w' :=
 have l : h.length ≤ (h ++ t).length := by rw [List.length_append]; exact Nat.le_add_right _ _
 ⟨A.rs, ⟨Nat.le_trans l A.kp.len, fun j o hj e => A.kp.keep j o hj (get_app e)⟩, fun j z => (A.fo j z).imp id (Nat.le_trans l)⟩
theorem tup_at {o : AObj} : (h ++ [o])[h.length]? = some o := by rw [List.getElem?_append_right (Nat.le_refl _), Nat.sub_self]; rfl
theorem RS.fresh (R : RS h k F S w) : ¬F h.length := fun z => Nat.lt_irrefl _ (R.old _ z)
theorem av_f3 {i : Int} {ps : List Int} (l : ps.length ≤ 50000) : abind f3 (.ref k :: .int i :: ps.map .int) [] h = some ([(12, .ref k), (9, .int i), (18, .ref h.length)], h ++ [.tuple (ps.map .int)]) :=
 if_pos ⟨Nat.le_add_left 2 _, by rw [List.length_cons, List.length_cons, List.length_map]; lia, rfl⟩
theorem f3_turn {h0 h : Hp} {i p : Int} {F' : Nat → Prop} {T : Sr} {w : Wit} {fr : Fm} {K : AFlow → Fm → Hp → Prop} (kF' : ¬F' k) (g12 : fr.loc 12 = some (.ref k)) (g9 : fr.loc 9 = some (.int i)) (A : Aft h0 F k T h F' w) (l1 : T.ks.length ≤ 1000) (l2 : (T.su p).length ≤ 100000)
  (q : ∀ fr' h', AdJ h0 k F i (T.link i p) fr' h' → K .next fr' h') : exStep (go (n + 17)) [.asg [.var (.loc 23)] (.meth (.loc 12) 21 [.loc 22] []), .expr (.meth (.attr (.loc 23) 11) 0 [.loc 9] [])] (fr.set 22 (.int p)) h K := by
 refine xAsg (eOwn (j := 2) rfl (eLoc g12 ⟨k, _, rfl, A.rs.inst, vCons (eLoc rfl (vNil (f2_spec (n := n + 2) A.rs l1 kF' fun h4 F4 w4 A4 => ?_)))⟩))
 refine (A4.rs.node p info_mem).elim fun dj ej => ?_
 have es := A4.rs.suc p info_mem
 refine xExpr (eMeth (by decide) (eAttr (eLoc rfl (aSuccV ej rfl ⟨_, _, rfl, es, vCons (eLoc g9 (vNil (bAppend es (by rw [List.length_map]; exact Z14 info_su l2) (xNil (q _ _ ⟨F4, w4, g12, g9, A.trans (A4.trans ?_)⟩)))))⟩))))
 have A5 := A4.rs.setSu info_mem ((T.info p).su p ++ [i])
 rw [List.map_append] at A5
 exact A5
theorem f3_spec {i : Int} {ps : List Int} (R : RS h k F S w) (hr : S.rd = none) (hl : S.ks.length + ps.length ≤ 900) (hs : ∀ j, (S.su j).length + ps.length ≤ 50000) (hkF : ¬F k) (q : ∀ h' F' w', Aft h F k (S.add i ps) h' F' w' → Q .none h') :
  (go (n + 20)).cl (.fn 3) (.ref k :: .int i :: ps.map .int) [] h Q := by
 refine cFn0 (f := f3) rfl rfl rfl (av_f3 (by lia)) ?_
 have R1 := R.grow [.tuple (ps.map .int)]
 have ns1 := R1.ns
 rw [hr] at ns1
 refine xIteF (eCmp (eAttr (eLoc rfl (aInst R1.inst ns1 rfl (eNone (.isn ⟨rfl, ?_⟩))))))
 refine xAsg (eOwn (j := 2) rfl (eLoc rfl ⟨k, _, rfl, R1.inst, vCons (eLoc rfl (vNil (f2_spec (n := n + 3) R1 (by lia) hkF fun h2 F2 w2 A2 => ?_)))⟩))
 have t2 := (A2.kept R.fresh tup_at).2
 refine (A2.rs.node i info_mem).elim fun di en => ?_
 refine xAugA (eLoc rfl (aNpredV en rfl (ePrim (vCons (eLoc rfl (vNil (.len _ (.tuple t2) (gAdd (sNpred en ?_)))))))))
 rw [List.length_map]
 have A3 := A2.trans (A2.rs.setNp info_mem en ((S.info i).np i + ps.length))
 refine xForD .int ps (fun ds => AdJ (h ++ [.tuple (ps.map .int)]) k F i (ds.foldl (fun S p => S.link i p) { S.info i with np := upd (S.info i).np i ((S.info i).np i + ps.length) })) (eLoc rfl ⟨rfl, rfl⟩) (A3.kept R.fresh tup_at).2 rfl ⟨F2, w2, rfl, rfl, A3⟩ (fun ds fr h' j => AdJ.casesOn j fun F' w' _ _ A => (A.kept R.fresh tup_at).2) (fun ds p rs fr h' e j => AdJ.casesOn j fun F' w' g12 g9 A => f3_turn (A.kept hkF (get_app R.inst)).1 g12 g9 A ?_ ?_ fun fr' h' j => ?_) fun fr h' j => AdJ.casesOn j fun F' w' _ _ A => xNil (q h' F' w' A.cut)
 ·have l1 := (link_len (i := i) ds { S.info i with np := upd (S.info i).np i ((S.info i).np i + ps.length) }).1
  have l0 : (S.info i).ks.length ≤ S.ks.length + 1 := info_len
  have lp : ps.length = ds.length + (rs.length + 1) := e ▸ List.length_append
  exact Nat.le_trans l1 (by show (S.info i).ks.length + _ ≤ _; lia)
 ·have l1 := (link_len (i := i) ds { S.info i with np := upd (S.info i).np i ((S.info i).np i + ps.length) }).2.1 p
  have l0 : ((S.info i).su p).length ≤ (S.su p).length := info_su
  have lp : ps.length = ds.length + (rs.length + 1) := e ▸ List.length_append
  exact Nat.le_trans l1 (by show ((S.info i).su p).length + _ ≤ _; have := hs p; lia)
 ·show AdJ _ _ _ _ ((ds ++ [p]).foldl _ _) _ _
  rw [List.foldl_append]; exact j
end
end Mine
namespace Mine
noncomputable def Sr.mark (S : Sr) (x : Int) : Sr := { S with np := upd S.np x (-1) }
noncomputable def Sr.ready (S : Sr) (l : List Int) : Sr := { l.foldl Sr.mark S with rd := some [], pa := S.pa + l.length }
noncomputable def Sr.act (S : Sr) (l : List Int) : Bool := decide (S.fi < S.pa) || !l.isEmpty
noncomputable def Sr.dec (S : Sr) (j : Int) : Sr := { S with np := upd S.np j (S.np j - 1), rd := if S.np j - 1 = 0 then S.rd.map (· ++ [j]) else S.rd }
noncomputable def Sr.done1 (S : Sr) (x : Int) : Sr := { (S.su x).foldl Sr.dec { S with np := upd S.np x (-2) } with fi := S.fi + 1 }
noncomputable def DoneOk : Sr → List Int → Prop
 | _, [] => True
 | S, x :: xs => x ∈ S.ks ∧ S.np x = -1 ∧ (∀ j ∈ S.su x, j ∈ S.ks) ∧ (∃ l, S.rd = some l ∧ l.length + (S.su x).length ≤ 50000) ∧ DoneOk (S.done1 x) xs
structure MkS (S T : Sr) : Prop where
 ks : T.ks = S.ks
 su : T.su = S.su
 rd : T.rd = S.rd
 pa : T.pa = S.pa
 fi : T.fi = S.fi
theorem mark_same : ∀ (l : List Int) (S : Sr), MkS S (l.foldl Sr.mark S)
 | [], _ => ⟨rfl, rfl, rfl, rfl, rfl⟩
 | x :: l, S => let z := mark_same l (S.mark x); ⟨z.1, z.2, z.3, z.4, z.5⟩
structure DcS (S T : Sr) (m : Nat) : Prop where
 ks : T.ks = S.ks
 su : T.su = S.su
 pa : T.pa = S.pa
 fi : T.fi = S.fi
 rd : ∃ r', T.rd = some r' ∧ r'.length ≤ m
theorem dec_rd {S : Sr} {r : List Int} (x : Int) (e : S.rd = some r) : ∃ r', (S.dec x).rd = some r' ∧ r'.length ≤ r.length + 1 := by
 show ∃ r', (if S.np x - 1 = 0 then S.rd.map (· ++ [x]) else S.rd) = some r' ∧ _
 rw [e]; split
 ·exact ⟨_, rfl, Nat.le_of_eq List.length_append⟩
 ·exact ⟨_, rfl, Nat.le_succ _⟩
theorem dec_same : ∀ (l : List Int) (S : Sr) (r : List Int), S.rd = some r → DcS S (l.foldl Sr.dec S) (r.length + l.length)
 | [], S, r, e => ⟨rfl, rfl, rfl, rfl, r, e, Nat.le_refl _⟩
 | x :: l, S, r, e => (dec_rd x e).elim fun r' e' => let z := dec_same l (S.dec x) r' e'.1
  ⟨z.1, z.2, z.3, z.4, z.5.elim fun r2 e2 => ⟨r2, e2.1, by have := e2.2; have := e'.2; rw [List.length_cons]; lia⟩⟩
section
variable {n : Nat} {h : Hp} {Q : AV → Hp → Prop} {k : Nat} {F : Nat → Prop} {S : Sr} {w : Wit}
inductive SJ (h0 : Hp) (k : Nat) (F : Nat → Prop) (w : Wit) (v : Option AV) (T : Sr) (fr : Fm) (h' : Hp) : Prop | mk (g12 : fr.loc 12 = some (.ref k)) (g27 : fr.loc 27 = some (.ref w.kd)) (g19 : fr.loc 19 = v) (A : Aft h0 F k T h' F w) : SJ h0 k F w v T fr h'
theorem mem_mid {ds rs xs : List Int} {p : Int} (e : xs = ds ++ p :: rs) : p ∈ xs := e ▸ List.mem_append_right _ (.head _)
theorem f5_spec {l : List Int} (R : RS h k F S w) (hr : S.rd = some l) (hl : l.length ≤ 50000) (hk : ∀ x ∈ l, x ∈ S.ks) (hkF : ¬F k) (q : ∀ h' t, Aft h F k (S.ready l) h' F w → h'[t]? = some (.tuple (l.map .int)) → h.length ≤ t → Q (.ref t) h') :
  (go (n + 10)).cl (.fn 5) [.ref k] [] h Q := by
 refine cFn0 (f := f5) (b := [(12, .ref k)]) (h1 := h) rfl rfl rfl rfl ?_
 have ns := R.ns
 rw [hr] at ns
 have lm : (l.map AV.int).length ≤ 100000 := by rw [List.length_map]; lia
 refine xIteF (eCmp (eAttr (eLoc rfl (aInst R.inst ns rfl (eNone (.is ⟨rfl, ?_⟩))))))
 refine xAsg (ePrim (vCons (eAttr (eLoc rfl (aInst R.inst ns rfl (vNil (.tuple _ (R.rdy l hr).1 lm ?_)))))))
 have R1 := R.grow [.tuple (l.map .int)]
 refine xAsg (eAttr (eLoc rfl (aInst R1.inst R1.ns rfl ?_)))
 refine xForD .int l (fun ds => SJ (h ++ [.tuple (l.map .int)]) k F w (some (.ref h.length)) (ds.foldl Sr.mark S)) (eLoc rfl ⟨rfl, rfl⟩) tup_at rfl ⟨rfl, rfl, rfl, R1.aft⟩ (fun ds fr h' j => SJ.casesOn j fun _ _ _ A => (A.kept R.fresh tup_at).2) (fun ds p rs fr h' e j => SJ.casesOn j fun g12 g27 g19 A => ?_) fun fr h' j => SJ.casesOn j fun g12 g27 g19 A => ?_
 ·have hp : p ∈ (ds.foldl Sr.mark S).ks := (mark_same ds S).ks ▸ hk p (mem_mid e)
  refine (A.rs.node p hp).elim fun di en => xAsgA (eGint (eIdx (eLoc g27 (eLoc rfl (.dict A.rs.dict (dget_in hp) (sNpred en (xNil ⟨g12, g27, g19, ?_⟩)))))))
  rw [List.foldl_append]
  exact A.trans (A.rs.setNp hp en (-1))
 ·have m := mark_same l S
  have ns2 := A.rs.ns
  rw [m.rd, hr] at ns2
  have b := (A.rs.rdy l (m.rd.trans hr)).1
  refine xExpr (eMeth (by decide) (eAttr (eLoc g12 (aInst A.rs.inst ns2 rfl ⟨_, _, rfl, b, vNil (bClear b lm ?_)⟩))))
  have A2 := A.trans (A.rs.setRd (m.rd.trans hr) [])
  have A3 := A2.trans (A2.rs.setNs (S.pa + l.length) (l.foldl Sr.mark S).fi)
  refine xAugA (eLoc g12 (aInst A2.rs.inst A2.rs.ns rfl (ePrim (vCons (eLoc g19 (vNil (.len _ (.tuple (A2.kept R.fresh tup_at).2) (gAdd (sInst A2.rs.inst A2.rs.ns (show (4 : Nat) < 1000 from by decide) ?_)))))))))
  rw [List.length_map, show ({ l.foldl Sr.mark S with rd := some [] } : Sr).pa = S.pa from m.pa]
  exact xRet (eLoc g19 (q _ _ A3.cut (A3.kept R.fresh tup_at).2 (Nat.le_refl _)))
theorem f6_spec {l : List Int} (R : RS h k F S w) (hr : S.rd = some l) (q : Q (.bool (S.act l)) h) : (go (n + 10)).cl (.fn 6) [.ref k] [] h Q := by
 refine cFn0 (f := f6) (b := [(12, .ref k)]) (h1 := h) rfl rfl rfl rfl ?_
 have ns := R.ns
 rw [hr] at ns
 obtain ⟨e0, a2, a3⟩ := R.rdy l hr
 refine xIteF (eCmp (eAttr (eLoc rfl (aInst R.inst ns rfl (eNone (.is ⟨rfl, ?_⟩))))))
 refine xRet (eOr (eCmp (eAttr (eLoc rfl (aInst R.inst ns rfl (eAttr (eLoc rfl (aInst R.inst ns rfl (cLt ⟨_, rfl, ?_⟩)))))))))
 unfold Sr.act at q
 by_cases c : S.fi < S.pa
 ·rw [decide_eq_true c] at q ⊢; exact q
 ·rw [decide_eq_false c] at q ⊢
  refine ePrim (vCons (eAttr (eLoc rfl (aInst R.inst ns rfl (vNil (.bool _ e0 ?_))))))
  rw [Bool.false_or] at q
  cases l <;> exact q
theorem dec_pos {S : Sr} {j : Int} {r : List Int} (c : S.np j - 1 = 0) (e : S.rd = some r) : S.dec j = { S with np := upd S.np j (S.np j - 1), rd := some (r ++ [j]) } := by unfold Sr.dec; rw [if_pos c, e]; rfl
theorem dec_neg {S : Sr} {j : Int} (c : ¬S.np j - 1 = 0) : S.dec j = { S with np := upd S.np j (S.np j - 1) } := by unfold Sr.dec; rw [if_neg c]
theorem f7_dec {h0 : Hp} {fr : Fm} {U : Sr} {j : Int} {r : List Int} {v : Option AV} {K : AFlow → Fm → Hp → Prop} (g12 : fr.loc 12 = some (.ref k)) (g27 : fr.loc 27 = some (.ref w.kd)) (g19 : fr.loc 19 = v) (A : Aft h0 F k U h F w) (hj : j ∈ U.ks) (hr : U.rd = some r) (hl : r.length ≤ 100000)
  (q : ∀ fr' h', SJ h0 k F w v (U.dec j) fr' h' → K .next fr' h') : exStep (go (n + 8)) [.asg [.var (.loc 32)] (.idx (.loc 27) (.loc 31)), .augAttr (.loc 32) 10 .sub (.int 1), .ite (.cmp .eq (.attr (.loc 32) 10) (.int 0)) [.expr (.meth (.attr (.loc 12) 15) 0 [(.loc 31)] [])] []] (fr.set 31 (.int j)) h K := by
 refine (A.rs.node j hj).elim fun dj ej => xAsg (eIdx (eLoc g27 (eLoc rfl (.dict A.rs.dict (dget_in hj) ?_))))
 refine xAugA (eLoc rfl (aNpredV ej rfl (eInt (gSub (sNpred ej ?_)))))
 have A2 := A.trans (A.rs.setNp hj ej (U.np j - 1))
 refine (A2.rs.node j hj).elim fun dk ek => ?_
 dsimp only at ek
 rw [upd_eq] at ek
 by_cases c : U.np j - 1 = 0
 ·refine xIteT (eCmp (eAttr (eLoc rfl (aNpredV ek rfl (eInt (cEq ⟨by rw [c]; rfl, ?_⟩))))))
  have ns2 := A2.rs.ns
  dsimp only at ns2
  rw [hr] at ns2
  have b := (A2.rs.rdy r hr).1
  refine xEnter (xExpr (eMeth (by decide) (eAttr (eLoc g12 (aInst A2.rs.inst ns2 rfl ⟨_, _, rfl, b, vCons (eLoc rfl (vNil (bAppend b (by rw [List.length_map]; exact hl) (xNil (xNil (q _ _ ⟨g12, g27, g19, ?_⟩))))))⟩)))))
  have A3 := A2.rs.setRd hr (r ++ [j])
  rw [List.map_append] at A3
  rw [dec_pos c hr]
  exact A2.trans A3
 ·refine xIteF (eCmp (eAttr (eLoc rfl (aNpredV ek rfl (eInt (cEq ⟨by rw [decide_eq_false c]; rfl, xNil (q _ _ ⟨g12, g27, g19, ?_⟩)⟩))))))
  rw [dec_neg c]
  exact A2
noncomputable def Sr.gone (S : Sr) (x : Int) : Sr := { S with np := upd S.np x (-2) }
theorem done1_eq {S T : Sr} {p : Int} {m : Nat} (e : T = (S.su p).foldl Sr.dec (S.gone p)) (z : DcS (S.gone p) T m) : { T with fi := T.fi + 1 } = S.done1 p := by
 subst e
 show ({ (S.su p).foldl Sr.dec (S.gone p) with fi := _ } : Sr) = { (S.su p).foldl Sr.dec (S.gone p) with fi := S.fi + 1 }
 rw [z.fi]; rfl
theorem f7_turn {h0 : Hp} {fr : Fm} {T : Sr} {p : Int} {v : Option AV} {K : AFlow → Fm → Hp → Prop} (g12 : fr.loc 12 = some (.ref k)) (g27 : fr.loc 27 = some (.ref w.kd)) (g19 : fr.loc 19 = v) (A : Aft h0 F k T h F w) (hp : p ∈ T.ks) (np : T.np p = -1) (sk : ∀ j ∈ T.su p, j ∈ T.ks) {l : List Int} (hl : T.rd = some l) (ll : l.length + (T.su p).length ≤ 50000)
  (q : ∀ fr' h', SJ h0 k F w ((fr'.loc 19)) (T.done1 p) fr' h' → K .next fr' h') : exStep (go (n + 9)) [.iteW 20 (.meth (.loc 27) 6 [(.loc 9)] []) [.fail], .asg [.var (.loc 30)] (.attr (.loc 20) 10), .ite (.cmp .ne (.loc 30) (.gint 0 (-1))) [.ite (.cmp .ge (.loc 30) (.int 0)) [.fail] [.ite (.cmp .eq (.loc 30) (.gint 0 (-2))) [.fail] [.fail]]] [], .asg [.attr (.loc 20) 10] (.gint 0 (-2)), .for (.one (.loc 31)) (.seq (.attr (.loc 20) 11)) [.asg [.var (.loc 32)] (.idx (.loc 27) (.loc 31)), .augAttr (.loc 32) 10 .sub (.int 1), .ite (.cmp .eq (.attr (.loc 32) 10) (.int 0)) [.expr (.meth (.attr (.loc 12) 15) 0 [(.loc 31)] [])] []], .augAttr (.loc 12) 17 .add (.int 1)] (fr.set 9 (.int p)) h K := by
 refine (A.rs.node p hp).elim fun di en => mX ?_
 show (go (n + 9)).ev _ _ _ _
 refine eDget (eLoc g27 ⟨w.kd, _, _, rfl, A.rs.dict, eLoc rfl ⟨p, _, _, rfl, A.rs.dict, ?_⟩⟩)
 rw [dget_in hp]
 refine .some rfl ?_
 show exStep (go (n + 9)) _ _ _ _
 refine xAsg (eAttr (eLoc rfl (aNpredV en rfl ?_)))
 refine xIteF (eCmp (eLoc rfl (eGint (cNe ⟨by rw [np]; rfl, ?_⟩))))
 refine xAsgA (eGint (eLoc rfl (sNpred en ?_)))
 have A1 : Aft h0 F k (T.gone p) _ F w := A.trans (A.rs.setNp hp en (-2))
 refine (A1.rs.node p hp).elim fun dj en1 => ?_
 refine xForD .int (T.su p) (fun ds => SJ h0 k F w v (ds.foldl Sr.dec (T.gone p))) (eLoc rfl (aSuccV en1 rfl ⟨rfl, rfl⟩) |> eAttr) (A1.rs.suc p hp) rfl ⟨g12, g27, g19, A1⟩ (fun ds fr h' j => SJ.casesOn j fun _ _ _ A => ?_) (fun ds j rs fr h' e J => SJ.casesOn J fun g12 g27 g19 A => ?_) fun fr h' J => SJ.casesOn J fun g12 g27 g19 A => ?_
 ·have z := dec_same ds (T.gone p) l hl
  exact (z.su ▸ A.rs.suc p (z.ks ▸ hp) :)
 ·have z := dec_same ds (T.gone p) l hl
  refine z.rd.elim fun r er => f7_dec g12 g27 g19 A (z.ks ▸ sk j (mem_mid e)) er.1 (Nat.le_trans er.2 ?_) fun fr' h' J => ?_
  ·have : (T.su p).length = ds.length + (rs.length + 1) := e ▸ List.length_append
   lia
  ·show SJ _ _ _ _ _ ((ds ++ [j]).foldl _ _) _ _
   rw [List.foldl_append]; exact J
 ·refine xAugA (eLoc g12 (aInst A.rs.inst A.rs.ns rfl (eInt (gAdd (sInst A.rs.inst A.rs.ns (show (4 : Nat) < 1000 from by decide) (xNil (q _ _ ⟨g12, g27, rfl, ?_⟩)))))))
  exact done1_eq rfl (dec_same (T.su p) (T.gone p) l hl) ▸ A.trans (A.rs.setNs ((T.su p).foldl Sr.dec (T.gone p)).pa (((T.su p).foldl Sr.dec (T.gone p)).fi + 1))
theorem doneOk_app : ∀ {ds : List Int} {S : Sr} {rs : List Int}, DoneOk S (ds ++ rs) → DoneOk (ds.foldl Sr.done1 S) rs
 | [], _, _, z => z
 | _ :: ds, _, _, z => doneOk_app (ds := ds) z.2.2.2.2
theorem av_f7 {xs : List Int} (l : xs.length ≤ 50000) : abind f7 (.ref k :: xs.map .int) [] h = some ([(12, .ref k), (29, .ref h.length)], h ++ [.tuple (xs.map .int)]) :=
 if_pos ⟨Nat.le_add_left 1 _, by rw [List.length_cons, List.length_map]; lia, rfl⟩
theorem f7_spec {xs : List Int} (R : RS h k F S w) (hx : DoneOk S xs) (hl : xs.length ≤ 50000) (hr : ∃ l, S.rd = some l) (hkF : ¬F k) (q : ∀ h', Aft h F k (xs.foldl Sr.done1 S) h' F w → Q .none h') :
  (go (n + 12)).cl (.fn 7) (.ref k :: xs.map .int) [] h Q := by
 refine cFn0 (f := f7) rfl rfl rfl (av_f7 hl) ?_
 have R1 := R.grow [.tuple (xs.map .int)]
 have ns1 := R1.ns
 rw [hr.elim fun l e => show rdV S.rd w.kr = .ref w.kr by rw [e]; rfl] at ns1
 refine xIteF (eCmp (eAttr (eLoc rfl (aInst R1.inst ns1 rfl (eNone (.is ⟨rfl, ?_⟩))))))
 refine xAsg (eAttr (eLoc rfl (aInst R1.inst ns1 rfl ?_)))
 refine xForD .int xs (fun ds fr => SJ (h ++ [.tuple (xs.map .int)]) k F w (fr.loc 19) (ds.foldl Sr.done1 S) fr) (eLoc rfl ⟨rfl, rfl⟩) tup_at rfl ⟨rfl, rfl, rfl, R1.aft⟩ (fun ds fr h' j => SJ.casesOn j fun _ _ _ A => (A.kept R.fresh tup_at).2) (fun ds p rs fr h' e j => SJ.casesOn j fun g12 g27 g19 A => ?_) fun fr h' j => SJ.casesOn j fun g12 g27 g19 A => xNil (q h' A.cut)
 have ok := doneOk_app (e ▸ hx)
 refine ok.2.2.2.1.elim fun l z => f7_turn g12 g27 rfl A ok.1 ok.2.1 ok.2.2.1 z.1 z.2 fun fr' h' J => ?_
 show SJ _ _ _ _ _ ((ds ++ [p]).foldl _ _) _ _
 rw [List.foldl_append]; exact J
end
end Mine
namespace Mine
inductive R1 (v : AV) (h : Hp) (K : List Item → (Hp → Prop) → Hp → Prop) : Prop | mk (i : Int) (e : v = .int i) (l : -100000 ≤ i ∧ i ≤ 100000) (q : K (rangeL 0 i) (fun _ => True) h)
inductive R2 (u v : AV) (h : Hp) (K : List Item → (Hp → Prop) → Hp → Prop) : Prop | mk (i j : Int) (e : u = .int i) (e' : v = .int j) (l : -100000 ≤ i ∧ i ≤ 100000) (l' : -100000 ≤ j ∧ j ≤ 100000) (q : K (rangeL i j) (fun _ => True) h)
section
variable {n : Nat} {fr : Fm} {h : Hp}
theorem src_r1 {b : IExpr} {K : List Item → (Hp → Prop) → Hp → Prop} (q : (go n).ev b fr h fun v h => R1 v h K) : srcE (go n) (.range1 b) fr h K :=
 ev_mono q fun v h ⟨i, e, l, q⟩ => by subst e; exact .mk ⟨by decide, by decide⟩ l q
theorem src_r2 {a b : IExpr} {K : List Item → (Hp → Prop) → Hp → Prop} (q : (go n).ev a fr h fun u h => (go n).ev b fr h fun v h => R2 u v h K) : srcE (go n) (.range2 a b) fr h K :=
 ev_mono q fun u h1 q1 => ev_mono q1 fun v h2 q2 => by obtain ⟨i, j, e, e', l, l', q3⟩ := q2; rw [e, e']; exact .mk l l' q3
theorem srcZip {a b : IExpr} {K : List Item → (Hp → Prop) → Hp → Prop} (q : (go n).ev a fr h fun u h => (go n).ev b fr h fun v h => SrZ h K u v) : srcE (go n) (.zip a b) fr h K := q
theorem src_val {e : IExpr} {K : List Item → (Hp → Prop) → Hp → Prop} (q : (go n).ev e fr h fun v h => SrV h K v) : srcE (go n) (.values e) fr h K := q
noncomputable def CompK (r : Rec) (pat : IPat) (ifs : List IExpr) (elt : IExpr) (gs : List IGen) (own free : List Nat) (fr : Fm) (Q : AV → Hp → Prop) (items : List Item) (chk : Hp → Prop) (h : Hp) : Prop :=
 loopC chk (fun it fr h acc Q => bindPat fr h (fun fr h => tsts r ifs fr h fun b h => if b then compB r elt gs fr h acc Q else Q fr h acc) pat it)
    (fun _ h acc => Q (.ref h.length) (h ++ [.list acc])) items (compF own free fr h) (h ++ own.map fun _ => .cell none) []
theorem eComp {elt : IExpr} {pat : IPat} {src : ISrc} {ifs : List IExpr} {gs : List IGen} {own free : List Nat} {Q : AV → Hp → Prop} (q : srcE (go n) src fr h (CompK (go n) pat ifs elt gs own free fr Q)) : (go (n + 1)).ev (.comp elt (.mk pat src ifs) gs own free) fr h Q := mE q
theorem loopC_rule {α : Type} {ι : α → Item} {chk : Hp → Prop} {turn : Item → Fm → Hp → List AV → (Fm → Hp → List AV → Prop) → Prop} {Q : Fm → Hp → List AV → Prop} (I : List α → Fm → Hp → List AV → Prop) (fin : ∀ fr h acc, I [] fr h acc → chk h ∧ Q fr h acc)
  (step : ∀ a as fr h acc, I (a :: as) fr h acc → chk h ∧ turn (ι a) fr h acc (I as)) : ∀ (as : List α) (fr : Fm) (h : Hp) (acc : List AV), I as fr h acc → loopC chk turn Q (as.map ι) fr h acc
 | [], fr, h, acc, i => fin fr h acc i
 | a :: as, fr, h, acc, i => ⟨(step a as fr h acc i).1, _, (step a as fr h acc i).2, fun fr h acc i => loopC_rule I fin step as fr h acc i⟩
theorem ckI {α : Type} {elt : IExpr} {pat : IPat} {ifs : List IExpr} {gs : List IGen} {own free : List Nat} {Q : AV → Hp → Prop} {chk : Hp → Prop} {its : List Item} (ι : α → Item) (as : List α) (I : List α → Hp → List AV → Prop) (hits : its = as.map ι) (i0 : I as (h ++ own.map fun _ => .cell none) []) (hc : ∀ as h' acc, I as h' acc → chk h')
  (body : ∀ a as fr' h' acc, fr'.cel = (compF own free fr h).cel → I (a :: as) h' acc → bindPat fr' h' (fun fr2 h2 => tsts (go n) ifs fr2 h2 fun b h3 => if b then compB (go n) elt gs fr2 h3 acc (fun fr4 h4 acc' => fr4.cel = (compF own free fr h).cel ∧ I as h4 acc') else fr2.cel = (compF own free fr h).cel ∧ I as h3 acc) pat (ι a))
  (q : ∀ h' acc, I [] h' acc → Q (.ref h'.length) (h' ++ [.list acc])) : CompK (go n) pat ifs elt gs own free fr Q its chk h := by
 subst hits
 refine loopC_rule (fun as fr' h' acc => fr'.cel = (compF own free fr h).cel ∧ I as h' acc) (fun fr' h' acc ⟨_, i⟩ => ⟨hc _ _ _ i, q h' acc i⟩) (fun a as fr' h' acc ⟨ec, i⟩ => ⟨hc _ _ _ i, body a as fr' h' acc ec i⟩) as _ _ _ ⟨rfl, i0⟩
theorem ckP {α : Type} {elt : IExpr} {pat : IPat} {ifs : List IExpr} {free : List Nat} {Q : AV → Hp → Prop} {chk : Hp → Prop} {its : List Item} (ι : α → Item) (as : List α) (g : α → Bool) (f : α → AV) (hits : its = as.map ι) (hc : chk h) (hl : as.length ≤ 100000)
  (body : ∀ a ∈ as, ∀ fr', fr'.cel = (compF [] free fr h).cel → bindPat fr' h (fun fr2 h2 => h2 = h ∧ fr2.cel = fr'.cel ∧ tsts (go n) ifs fr2 h (fun b h3 => b = g a ∧ h3 = h) ∧ (g a = true → (go n).ev elt fr2 h fun v h4 => v = f a ∧ h4 = h)) pat (ι a))
  (q : Q (.ref h.length) (h ++ [.list ((as.filter g).map f)])) : CompK (go n) pat ifs elt [] [] free fr Q its chk h := by
 refine ckI ι as (fun rs h' acc => h' = h ∧ ∃ ds, as = ds ++ rs ∧ acc = (ds.filter g).map f) hits ⟨by simp, [], rfl, rfl⟩ (fun _ h' _ ⟨e, _⟩ => e ▸ hc) (fun a rs fr' h' acc ec ⟨eh, ds, e1, e2⟩ => ?_) fun h' acc ⟨eh, ds, e1, e2⟩ => ?_
 ·subst eh
  refine bindPat_mono (body a (by rw [e1]; simp) fr' ec) fun fr2 h2 ⟨eh, ec2, t, el⟩ => ?_
  subst eh
  refine tsts_mono t fun b h3 ⟨eb, eh⟩ => ?_
  subst eh
  cases b with
  | false => exact ⟨ec2.trans ec, rfl, ds ++ [a], by rw [e1]; simp, by rw [List.filter_append]; simp [← eb, e2]⟩
  | true =>
   refine ev_mono (el eb.symm) fun v h4 ⟨ev, eh⟩ => ?_
   subst eh
   refine ⟨?_, ec2.trans ec, rfl, ds ++ [a], by rw [e1]; simp, by rw [List.filter_append]; simp [← eb, e2, ev]⟩
   rw [e2, List.length_map]
   have := List.length_filter_le g ds
   have : as.length = ds.length + (rs.length + 1) := by rw [e1]; simp
   lia
 ·subst eh
  rw [List.append_nil] at e1
  subst e1
  rw [e2]; exact q
end
end Mine
namespace Mine
theorem nodup_len : ∀ {l ks : List Int}, l.Nodup → (∀ i ∈ l, i ∈ ks) → l.length ≤ ks.length
 | [], _, _, _ => Nat.zero_le _
 | a :: l, ks, hn, hs => by
  have ha := hs a (.head _)
  have hn' := List.nodup_cons.mp hn
  have := nodup_len (l := l) (ks := ks.erase a) hn'.2 fun i hi => (List.mem_erase_of_ne (show i ≠ a from fun e => hn'.1 (e ▸ hi))).mpr (hs i (.tail _ hi))
  rw [List.length_erase_of_mem ha] at this
  have := List.length_pos_of_mem ha
  simp; lia
theorem sum_sub (f : Int → Nat) {p p' : Int → Bool} (hp : ∀ i, p' i = true → p i = true) : ∀ ks : List Int, ((ks.filter p').map f).sum ≤ ((ks.filter p).map f).sum
 | [] => Nat.le_refl _
 | a :: ks => by
  have ih := sum_sub f hp ks
  simp only [List.filter_cons]
  cases e : p' a with
  | true => rw [hp a e]; simp; exact ih
  | false => cases p a <;> simp <;> lia
theorem sum_out (f : Int → Nat) {v : Int} {p p' : Int → Bool} (pv : p v = true) (hp : ∀ i, p' i = true → p i = true ∧ i ≠ v) : ∀ ks : List Int, v ∈ ks → f v + ((ks.filter p').map f).sum ≤ ((ks.filter p).map f).sum
 | a :: ks, hv => by
  have hs := sum_sub f (fun i z => (hp i z).1) ks
  simp only [List.filter_cons]
  by_cases e : v = a
  ·subst e
   have : p' v = false := by cases z : p' v with | false => rfl | true => exact absurd rfl (hp v z).2
   rw [pv, this]; simp; exact hs
  ·have ih := sum_out f pv hp ks (List.mem_of_ne_of_mem e hv)
   cases e' : p' a with
   | true => rw [(hp a e').1]; simp; lia
   | false => cases p a <;> simp <;> lia
theorem RS.ext {h h' : Hp} {k : Nat} {F : Nat → Prop} {S : Sr} {w : Wit} (R : RS h k F S w) (kp : Kp (fun _ => False) h h') : RS h' k F S w :=
 have g := fun (j : Nat) (o : AObj) (e : h[j]? = some o) => kp.keep j o id e
 ⟨g _ _ R.inst, g _ _ R.ns, g _ _ R.dict, fun l hl => let ⟨a1, a2, a3⟩ := R.rdy l hl; ⟨g _ _ a1, a2, a3⟩, fun j hj => let ⟨dj, a⟩ := R.node j hj; ⟨dj, g _ _ a⟩, fun j hj => g _ _ (R.suc j hj), R.sinj, R.nd, R.own, fun j hj => Nat.lt_of_lt_of_le (R.old j hj) kp.len⟩
structure En where
 nd : Int
 m : Nat
 it : Nat
 pos : Nat
structure DS (h0 : Hp) (S : Sr) (w : Wit) (rk : Int → Nat) (h : Hp) (seen : List Int) (es : List En) : Prop where
 kp : Kp (fun _ => False) h0 h
 st : h[h0.length]? = some (.list (es.map fun e => .int e.nd))
 its : h[h0.length + 1]? = some (.list (es.map fun e => .ref e.m))
 set : h[h0.length + 2]? = some (.set seen)
 dict : ∃ ds ver, h[h0.length + 3]? = some (.dict ds ver) ∧ ds.map (·.1) = es.map (·.nd)
 ent : ∀ e ∈ es, h[e.m]? = some (.meth e.it) ∧ h[e.it]? = some (.iter (w.sa e.nd) e.pos) ∧ e.pos ≤ (S.su e.nd).length ∧ e.nd ∈ seen ∧ h0.length ≤ e.it
 dis : es.Pairwise fun a b => a.it ≠ b.it
 rks : es.Pairwise fun a b => rk a.nd < rk b.nd
 nd : seen.Nodup
 sub : ∀ i ∈ seen, i ∈ S.ks
noncomputable def mu (S : Sr) (seen : List Int) (es : List En) : Nat := ((S.ks.filter fun i => decide (i ∉ seen)).map fun i => (S.su i).length + 2).sum + (es.map fun e => (S.su e.nd).length - e.pos + 1).sum
section
variable {h0 h : Hp} {S : Sr} {w : Wit} {rk : Int → Nat} {seen : List Int} {es : List En}
theorem Kp.fresh {j : Nat} {o : AObj} (kp : Kp (fun _ => False) h0 h) (hj : h0.length ≤ j) : Kp (fun _ => False) h0 (h.set j o) :=
 ⟨by simpa using kp.len, fun i x _ e => get_set (kp.keep i x id e) (by have := lt_of_get e; lia)⟩
theorem Kp.more {t : Hp} {F : Nat → Prop} (kp : Kp F h0 h) : Kp F h0 (h ++ t) := ⟨by have := kp.len; simp; exact Z21 (Nat.add_le_add_right this (List.length t)), fun i x f e => get_app (kp.keep i x f e)⟩
theorem DS.len (D : DS h0 S w rk h seen es) : es.length ≤ S.ks.length ∧ seen.length ≤ S.ks.length := by
 refine ⟨?_, nodup_len D.nd D.sub⟩
 have : (es.map (·.nd)).length ≤ S.ks.length := nodup_len (List.pairwise_map.mpr (D.rks.imp fun l e => by rw [e] at l; exact Z22 l)) fun i hi => by
  obtain ⟨e, he, rfl⟩ := List.mem_map.mp hi
  exact D.sub _ (D.ent e he).2.2.2.1
 simpa using this
theorem DS.next {e : En} (D : DS h0 S w rk h seen (es ++ [e])) (l : e.pos < (S.su e.nd).length) : DS h0 S w rk (h.set e.it (.iter (w.sa e.nd) (e.pos + 1))) seen (es ++ [{ e with pos := e.pos + 1 }]) := by
 obtain ⟨em, ei, ep, en, eb⟩ := D.ent e (by simp)
 obtain ⟨ds, ver, d1, d2⟩ := D.dict
 have pw := List.pairwise_append.mp D.dis
 have pr := List.pairwise_append.mp D.rks
 refine ⟨D.kp.fresh eb, ?_, ?_, get_set D.set (ne_of_get ei D.set nofun), ⟨ds, ver, get_set d1 (ne_of_get ei d1 nofun), by simpa using d2⟩, fun x hx => ?_, ?_, ?_, D.nd, D.sub⟩
 ·have := D.st; rw [List.map_append] at this ⊢; exact get_set this (ne_of_get ei this nofun)
 ·have := D.its; rw [List.map_append] at this ⊢; exact get_set this (ne_of_get ei this nofun)
 ·rcases List.mem_append.mp hx with z | z
  ·obtain ⟨xm, xi, xp, xn, xb⟩ := D.ent x (List.mem_append_left _ z)
   exact ⟨get_set xm (ne_of_get ei xm nofun), get_set xi (pw.2.2 x z e (by simp)).symm, xp, xn, xb⟩
  ·rw [List.mem_singleton.mp z]; exact ⟨get_set em (ne_of_get ei em nofun), get_self ei, l, en, eb⟩
 ·exact List.pairwise_append.mpr ⟨pw.1, by simp, fun a ha b hb => by rw [List.mem_singleton.mp hb]; exact pw.2.2 a ha e (by simp)⟩
 ·exact List.pairwise_append.mpr ⟨pr.1, by simp, fun a ha b hb => by rw [List.mem_singleton.mp hb]; exact pr.2.2 a ha e (by simp)⟩
theorem ddel_last {es : List En} {e : En} (hn : ∀ x ∈ es, x.nd ≠ e.nd) : ∀ (ds : List (Int × AV)), ds.map (·.1) = (es ++ [e]).map (·.nd) → (ddel ds e.nd).map (·.1) = es.map (·.nd) := by
 induction es with
 | nil =>
  intro ds hd
  match ds, hd with
  | [(k, v)], hd => simp at hd; subst hd; simp [ddel]
  | (k, v) :: (k', v') :: r, hd => simp at hd
  | [], hd => simp at hd
 | cons x es ih =>
  intro ds hd
  match ds, hd with
  | [], hd => simp at hd
  | (k, v) :: r, hd =>
   simp only [List.map_cons, List.cons_append, List.cons.injEq] at hd
   have : k ≠ e.nd := by rw [hd.1]; exact hn x (.head _)
   rw [ddel, if_neg this, List.map_cons, ih (fun x hx => hn x (.tail _ hx)) r hd.2, hd.1]; rfl
theorem DS.ndne {e : En} (D : DS h0 S w rk h seen (es ++ [e])) : ∀ x ∈ es, x.nd ≠ e.nd := fun x hx z => by
 have := (List.pairwise_append.mp D.rks).2.2 x hx e (by simp)
 rw [z] at this; exact Z22 this
theorem DS.pop {e : En} (D : DS h0 S w rk h seen (es ++ [e])) {ds : List (Int × AV)} {ver n' : Nat} (hd : h[h0.length + 3]? = some (.dict ds ver)) :
  DS h0 S w rk ((((h.set e.it .junk).set h0.length (.list (es.map fun e => .int e.nd))).set (h0.length + 3) (.dict (ddel ds e.nd) n')).set (h0.length + 1) (.list (es.map fun e => .ref e.m))) seen es := by
 obtain ⟨em, ei, ep, en, eb⟩ := D.ent e (by simp)
 obtain ⟨ds', ver', d1, d2⟩ := D.dict
 rw [hd] at d1
 cases d1
 have pw := List.pairwise_append.mp D.dis
 have pr := List.pairwise_append.mp D.rks
 have g := fun (j : Nat) (o : AObj) (e1 : h[j]? = some o) (n1 : e.it ≠ j) (n2 : h0.length ≠ j) (n3 : h0.length + 3 ≠ j) (n4 : h0.length + 1 ≠ j) => get_set (o := .list (es.map fun e => .ref e.m)) (get_set (o := .dict (ddel ds e.nd) n') (get_set (o := .list (es.map fun e => .int e.nd)) (get_set (o := .junk) e1 n1) n2) n3) n4
 refine ⟨((((D.kp.fresh eb).fresh (Nat.le_refl _)).fresh (by exact Nat.le_add_right (List.length h0) 3)).fresh (by exact Nat.le_succ (List.length h0))), ?_, ?_, g _ _ D.set (ne_of_get ei D.set nofun) (by exact Z1 1) (by exact Z25 (Nat.lt_succ_self (List.length h0 + 2))) (by exact Z24 (Nat.lt_succ_self (List.length h0 + 1))), ⟨ddel ds e.nd, n', ?_, ddel_last D.ndne ds d2⟩, fun x hx => ?_, pw.1, pr.1, D.nd, D.sub⟩
 ·exact get_set (get_set (get_self (get_set D.st (ne_of_get ei D.st nofun))) (by exact Z23 2)) (by exact Z23 0)
 ·exact get_self (get_set (get_set (get_set D.its (ne_of_get ei D.its nofun)) (by exact Z1 0)) (by lia))
 ·exact get_set (get_self (get_set (get_set hd (ne_of_get ei hd nofun)) (by exact Z1 2))) (by lia)
 ·obtain ⟨xm, xi, xp, xn, xb⟩ := D.ent x (List.mem_append_left _ hx)
  exact ⟨g _ _ xm (ne_of_get ei xm nofun) (ne_of_get D.st xm nofun) (ne_of_get hd xm nofun) (ne_of_get D.its xm nofun), g _ _ xi (pw.2.2 x hx e (by simp)).symm (ne_of_get D.st xi nofun) (ne_of_get hd xi nofun) (ne_of_get D.its xi nofun), xp, xn, xb⟩
theorem mu_next {e : En} (l : e.pos < (S.su e.nd).length) : mu S seen (es ++ [{ e with pos := e.pos + 1 }]) < mu S seen (es ++ [e]) := by
 unfold mu; simp; lia
theorem mu_pop {e : En} : mu S seen es < mu S seen (es ++ [e]) := by unfold mu; simp
theorem mu_push {v : Int} {m it : Nat} (hv : v ∈ S.ks) (hn : v ∉ seen) : mu S (seen ++ [v]) (es ++ [⟨v, m, it, 0⟩]) < mu S seen es := by
 unfold mu
 have := sum_out (fun i => (S.su i).length + 2) (v := v) (p := fun i => decide (i ∉ seen)) (p' := fun i => decide (i ∉ seen ++ [v])) (by simpa using hn) (fun i hi => by simp at hi ⊢; exact hi) S.ks hv
 simp only [List.map_append, List.sum_append, List.map_cons, List.map_nil, List.sum_cons, List.sum_nil]
 lia
theorem mu_top : mu S seen [] ≤ (S.ks.map fun i => (S.su i).length + 2).sum := by
 unfold mu
 have := sum_sub (fun i => (S.su i).length + 2) (p := fun _ => true) (p' := fun i => decide (i ∉ seen)) (fun _ _ => rfl) S.ks
 rw [List.filter_eq_self.mpr (fun _ _ => rfl)] at this
 simpa using this
end
end Mine
namespace Mine
theorem dput_keys {v : Int} {x : AV} : ∀ {ds : List (Int × AV)}, v ∉ ds.map (·.1) → (dput ds v x).map (·.1) = ds.map (·.1) ++ [v]
 | [], _ => rfl
 | (k, y) :: ds, hn => by
  have : k ≠ v := fun z => hn (by simp [z])
  rw [dput, if_neg this, List.map_cons, dput_keys (fun z => hn (.tail _ z))]; rfl
section
variable {h0 h : Hp} {S : Sr} {w : Wit} {rk : Int → Nat} {seen : List Int} {es : List En}
theorem DS.push {v : Int} {x : AV} {n' ver : Nat} {ds : List (Int × AV)} (D : DS h0 S w rk h seen es) (hd : h[h0.length + 3]? = some (.dict ds ver)) (hv : v ∈ S.ks) (hs : v ∉ seen) (hr : ∀ e ∈ es, rk e.nd < rk v) :
  DS h0 S w rk (((((h.set (h0.length + 2) (.set (seen ++ [v]))) ++ [AObj.iter (w.sa v) 0] ++ [AObj.meth h.length]).set (h0.length + 1) (.list (es.map (fun e => AV.ref e.m) ++ [AV.ref (h.length + 1)]))).set (h0.length + 3) (.dict (dput ds v x) n')).set h0.length (.list (es.map (fun e => AV.int e.nd) ++ [AV.int v]))) (seen ++ [v]) (es ++ [⟨v, h.length + 1, h.length, 0⟩]) := by
 obtain ⟨ds', ver', d1, d2⟩ := D.dict
 rw [hd] at d1
 cases d1
 have g := fun (j : Nat) (o : AObj) (e1 : h[j]? = some o) (n2 : h0.length + 2 ≠ j) => get_app (t := [.meth h.length]) (get_app (t := [.iter (w.sa v) 0]) (get_set (o := .set (seen ++ [v])) e1 n2))
 have ne : v ∉ es.map (·.nd) := fun z => by
  obtain ⟨e, he, z⟩ := List.mem_map.mp z
  have := hr e he; rw [z] at this; exact Z22 this
 have lb : h0.length + 3 < h.length := lt_of_get hd
 refine ⟨?_, ?_, ?_, ?_, ⟨dput ds v x, n', ?_, ?_⟩, fun e he => ?_, ?_, ?_, ?_, fun i hi => ?_⟩
 ·exact ((((D.kp.fresh (by exact Nat.le_add_right (List.length h0) 2)).more.more).fresh (by exact Nat.le_succ (List.length h0))).fresh (by exact Nat.le_add_right (List.length h0) 3)).fresh (Nat.le_refl _)
 ·rw [List.map_append]; exact get_self (get_set (get_set (g _ _ D.st (by exact Z23 1)) (by exact Z23 0)) (by exact Z23 2))
 ·rw [List.map_append]; exact get_set (get_set (get_self (g _ _ D.its (by exact Z25 (Nat.lt_succ_self (List.length h0 + 1))))) (by lia)) (by exact Z1 0)
 ·exact get_set (get_set (get_set (get_app (get_app (get_self D.set))) (by exact Z24 (Nat.lt_succ_self (List.length h0 + 1)))) (by exact Z25 (Nat.lt_succ_self (List.length h0 + 2)))) (by exact Z1 1)
 ·exact get_set (get_self (get_set (g _ _ hd (by exact Z24 (Nat.lt_succ_self (List.length h0 + 2)))) (by lia))) (by exact Z1 2)
 ·rw [dput_keys (by rw [d2]; exact ne), d2, List.map_append]; rfl
 ·rcases List.mem_append.mp he with z | z
  ·obtain ⟨xm, xi, xp, xn, xb⟩ := D.ent e z
   exact ⟨get_set (get_set (get_set (g _ _ xm (ne_of_get D.set xm nofun)) (ne_of_get D.its xm nofun)) (ne_of_get hd xm nofun)) (ne_of_get D.st xm nofun),
    get_set (get_set (get_set (g _ _ xi (ne_of_get D.set xi nofun)) (ne_of_get D.its xi nofun)) (ne_of_get hd xi nofun)) (ne_of_get D.st xi nofun), xp, List.mem_append_left _ xn, xb⟩
  ·rw [List.mem_singleton.mp z]
   refine ⟨get_set (get_set (get_set ?_ ?_) ?_) ?_, get_set (get_set (get_set (get_app ?_) ?_) ?_) ?_, Nat.zero_le _, by simp, ?_⟩
   ·show (_ ++ [AObj.meth h.length])[h.length + 1]? = _; rw [List.getElem?_append_right (by simp)]; simp
   ·show _ ≠ h.length + 1; lia
   ·show _ ≠ h.length + 1; exact Z19 1 lb
   ·show _ ≠ h.length + 1; exact Z19 1 (Z16 lb)
   ·show (_ ++ [AObj.iter (w.sa v) 0])[h.length]? = _; rw [List.getElem?_append_right (by simp)]; simp
   ·show _ ≠ h.length; lia
   ·show _ ≠ h.length; exact Z24 lb
   ·show _ ≠ h.length; exact Z24 (Z16 lb)
   ·show _ ≤ h.length; exact Z26 (Z16 lb)
 ·exact List.pairwise_append.mpr ⟨D.dis, by simp, fun a ha b hb => by rw [List.mem_singleton.mp hb]; have := lt_of_get (D.ent a ha).2.1; show a.it ≠ h.length; exact Z24 this⟩
 ·exact List.pairwise_append.mpr ⟨D.rks, by simp, fun a ha b hb => by rw [List.mem_singleton.mp hb]; exact hr a ha⟩
 ·exact List.nodup_append.mpr ⟨D.nd, by simp, fun a ha b hb z => hs (by rw [← List.mem_singleton.mp hb, ← z]; exact ha)⟩
 ·rcases List.mem_append.mp hi with z | z
  ·exact D.sub i z
  ·rw [List.mem_singleton.mp z]; exact hv
end
structure FS (h0 : Hp) (w : Wit) (fr : Fm) : Prop where
 f27 : fr.loc 27 = some (.ref w.kd)
 f33 : fr.loc 33 = some (.ref h0.length)
 f34 : fr.loc 34 = some (.ref (h0.length + 1))
 f35 : fr.loc 35 = some (.ref (h0.length + 2))
 f36 : fr.loc 36 = some (.ref (h0.length + 3))
theorem FS.set {h0 : Hp} {w : Wit} {fr : Fm} {v : AV} (f : FS h0 w fr) : FS h0 w (fr.set 9 v) := ⟨f.f27, f.f33, f.f34, f.f35, f.f36⟩
section
variable {n : Nat} {h0 h : Hp} {k : Nat} {F : Nat → Prop} {S : Sr} {w : Wit} {rk : Int → Nat}
theorem f8_try {fr : Fm} {seen : List Int} {es : List En} {e : En} {K : AFlow → Fm → Hp → Prop} (R : RS h0 k F S w) (hl : S.ks.length ≤ 900) (f : FS h0 w fr) (D : DS h0 S w rk h seen (es ++ [e]))
  (k1 : ∀ v h', v ∈ S.su e.nd → e.pos < (S.su e.nd).length → DS h0 S w rk h' seen (es ++ [{ e with pos := e.pos + 1 }]) → K .brk (fr.set 9 (.int v)) h') (k2 : ∀ h', DS h0 S w rk h' seen es → K .next fr h') : stStep (go n) (.tryNext 9 34 36 33) fr h K := by
 obtain ⟨em, ei, ep, en, eb⟩ := D.ent e (by simp)
 obtain ⟨ds, ver, d1, d2⟩ := D.dict
 have ll := D.len.1
 have ld : ds.length = (es ++ [e]).length := by have := congrArg List.length d2; simpa using this
 have sl := (R.ext D.kp).suc e.nd (D.sub _ en)
 refine ⟨h0.length + 1, h0.length + 3, h0.length, _, e.it, w.sa e.nd, e.pos, _, _, ds, ver, e.m, f.f34, f.f36, f.f33, D.its, by simp, em, ei, sl, D.st, d1, by simp at ll ⊢; lia, by simp at ll ⊢; lia, by lia, fun v hv => ?_, fun hv => ?_⟩
 ·rw [List.getElem?_map] at hv
  obtain ⟨i, hi, rfl⟩ := Option.map_eq_some_iff.mp hv
  obtain ⟨l, rfl⟩ := List.getElem?_eq_some_iff.mp hi
  exact k1 _ _ (List.getElem_mem l) l (D.next l)
 ·refine ⟨e.nd, by simp, ?_, by exact Z23 0, by lia, by exact Z1 2, fun n' => k2 _ ?_⟩
  ·rw [d2]; simp
  ·have := D.pop (n' := n') d1
   simp only [List.map_append, List.map_cons, List.map_nil, List.dropLast_concat]
   exact this
end
end Mine
namespace Mine
section
variable {n : Nat} {h0 h : Hp} {k : Nat} {F : Nat → Prop} {S : Sr} {w : Wit} {rk : Int → Nat}
inductive FI (h0 : Hp) (S : Sr) (w : Wit) (rk : Int → Nat) (m : Nat) (fr : Fm) (h : Hp) : Prop
 | mk (seen : List Int) (es : List En) (v : Int) (f : FS h0 w fr) (e9 : fr.loc 9 = some (.int v)) (D : DS h0 S w rk h seen es) (hv : v ∈ S.ks) (hr : ∀ e ∈ es, rk e.nd < rk v) (em : mu S seen es = m) (mW : m < wB) : FI h0 S w rk m fr h
inductive FJ (h0 : Hp) (S : Sr) (w : Wit) (rk : Int → Nat) (m m' : Nat) (fr : Fm) (h : Hp) : Prop
 | mk (seen : List Int) (es : List En) (f : FS h0 w fr) (D : DS h0 S w rk h seen es) (em : mu S seen es = m') (l : m' ≤ m) : FJ h0 S w rk m m' fr h
inductive FG (h0 : Hp) (S : Sr) (w : Wit) (rk : Int → Nat) (fr : Fm) (h : Hp) : Prop
 | mk (seen : List Int) (f : FS h0 w fr) (D : DS h0 S w rk h seen []) : FG h0 S w rk fr h
theorem ne_emp {α β : Type} {f : α → β} {e : α} : ∀ {l : List α}, (!((l ++ [e]).map f).isEmpty) = true
 | [] => rfl
 | _ :: _ => rfl
theorem mem_last {α : Type} {l : List α} {e : α} : e ∈ l ++ [e] := List.mem_append_right _ (.head _)
theorem f8_in {fr : Fm} {seen : List Int} {es : List En} {m : Nat} {K : AFlow → Fm → Hp → Prop} (R : RS h0 k F S w) (hrk : ∀ i ∈ S.ks, ∀ j ∈ S.su i, j ∈ S.ks ∧ rk i < rk j) (hl : S.ks.length ≤ 900) (f : FS h0 w fr) (D : DS h0 S w rk h seen es) (hm : mu S seen es ≤ m) (hW : m < wB)
  (k1 : ∀ fr h, Lss (FI h0 S w rk) m fr h → K .next fr h) (k2 : ∀ fr h, FG h0 S w rk fr h → K .brk fr h) : exStep (go (n + 3)) [.while (.loc 33) [.tryNext 9 34 36 33] [.brk]] fr h K := by
 refine xWhile (FJ h0 S w rk m) _ (Nat.lt_of_le_of_lt hm hW) ⟨seen, es, f, D, rfl, hm⟩ fun m' fr h j => FJ.casesOn j fun seen es f D e1 l1 => ?_
 refine eLoc f.f33 ⟨_, tr_list D.st, ?_⟩
 rcases List.eq_nil_or_concat es with e | ⟨es', e, ee⟩
 ·subst e
  exact xEnter (xBrk (k2 fr h ⟨seen, f, D⟩))
 ·rw [List.concat_eq_append] at ee
  subst ee
  rw [ne_emp, if_pos rfl]
  refine xEnter (mX ?_)
  show stStep _ _ _ _ _
  have z := D.ent e mem_last
  refine f8_try R hl f D (fun v h' hv lp D' => ?_) fun h' D' => xNil ⟨_, e1 ▸ mu_pop, seen, es', f, D', rfl, Nat.le_trans (Nat.le_of_lt mu_pop) (e1 ▸ l1)⟩
  have v1 := hrk e.nd (D.sub _ z.2.2.2.1) v hv
  have lm := Nat.lt_of_lt_of_le (mu_next (S := S) (seen := seen) (es := es') lp) (e1 ▸ l1)
  exact xNil (k1 _ _ ⟨_, lm, seen, _, v, f.set, rfl, D', v1.1, fun x hx => (List.mem_append.mp hx).elim (fun z => Nat.lt_trans ((List.pairwise_append.mp D.rks).2.2 x z e (.head _)) v1.2) fun z => List.mem_singleton.mp z ▸ v1.2, rfl, Nat.lt_trans lm hW⟩)
theorem f8_new {fr : Fm} {seen : List Int} {es : List En} {u : Int} {K : AFlow → Fm → Hp → Prop} (R : RS h0 k F S w) (hl : S.ks.length ≤ 900) (f : FS h0 w fr) (e9 : fr.loc 9 = some (.int u)) (D : DS h0 S w rk h seen es) (hu : u ∈ S.ks) (hs : u ∉ seen) (hr : ∀ e ∈ es, rk e.nd < rk u)
  (q : ∀ h', DS h0 S w rk h' (seen ++ [u]) (es ++ [⟨u, h.length + 1, h.length, 0⟩]) → K .next fr h') : exStep (go (n + 6)) [.expr (.meth (.loc 35) 7 [(.loc 9)] []), .expr (.meth (.loc 34) 0 [(.attr (.prim .iter [(.attr (.idx (.loc 27) (.loc 9)) 11)]) 8)] []), .asg [.idx (.loc 36) (.loc 9)] (.prim .len [(.loc 33)]), .expr (.meth (.loc 33) 0 [(.loc 9)] [])] fr h K := by
 refine D.dict.elim fun de z => z.elim fun ver d => ?_
 have ls := D.len
 have l1 : es.length ≤ 100000 := Nat.le_trans ls.1 (Nat.le_trans hl (by decide))
 refine xExpr (eSadd (eLoc f.f35 ⟨_, _, rfl, D.set, eLoc e9 ⟨_, _, rfl, D.set, Nat.le_trans ls.2 (Nat.le_trans hl (by decide)), ?_⟩⟩))
 rw [if_neg hs]
 have R1 := R.ext (D.kp.fresh (j := h0.length + 2) (o := .set (seen ++ [u])) (by exact Nat.le_add_right (List.length h0) 2))
 refine (R1.node u hu).elim fun du eu => ?_
 have n01 : h0.length ≠ h0.length + 1 := Z1 0
 have n03 : h0.length ≠ h0.length + 3 := Z1 2
 have n13 : h0.length + 1 ≠ h0.length + 3 := Z24 (Nat.le_succ _)
 have i1 : (h.set (h0.length + 2) (.set (seen ++ [u])))[h0.length + 1]? = _ := get_set D.its (Z25 (Nat.lt_succ_self _))
 have i0 : (h.set (h0.length + 2) (.set (seen ++ [u])))[h0.length]? = _ := get_set D.st (Z23 1)
 have i3 : (h.set (h0.length + 2) (.set (seen ++ [u])))[h0.length + 3]? = _ := get_set d.1 (Z24 (Nat.lt_succ_self _))
 refine xExpr (eMeth (by decide) (eLoc f.f34 ⟨_, _, rfl, i1, vCons (eAttr (ePrim (vCons (eAttr (eIdx (eLoc f.f27 (eLoc e9 (.dict R1.dict (dget_in hu) (aSuccV eu rfl (vNil (.iter _ (R1.suc u hu) ?_)))))))))))⟩))
 have ld : de.length ≤ 100000 := by have := congrArg List.length d.2; rw [List.length_map, List.length_map] at this; exact this ▸ l1
 refine .next tup_at (vNil (bAppend (get_app (get_app i1)) (by rw [List.length_map]; exact l1) ?_))
 have j0 := get_set (o := .list (es.map (fun e => AV.ref e.m) ++ [AV.ref (h.set (h0.length + 2) (.set (seen ++ [u])) ++ [AObj.iter (w.sa u) 0]).length])) (get_app (t := [.meth (h.set (h0.length + 2) (.set (seen ++ [u]))).length]) (get_app (t := [.iter (w.sa u) 0]) i0)) n01.symm
 refine xAsgI (ePrim (vCons (eLoc f.f33 (vNil (.len _ (.list j0) (eLoc f.f36 (eLoc e9 (.dict (get_set (get_app (get_app i3)) n13) ld fun n' => ?_))))))))
 have j0' := get_set (o := .dict (dput de u (.int (es.map fun e => AV.int e.nd).length)) n') j0 n03.symm
 refine xExpr (eMeth (by decide) (eLoc f.f33 ⟨_, _, rfl, j0', vCons (eLoc e9 (vNil (bAppend j0' (by rw [List.length_map]; exact l1) (xNil (q _ ?_)))))⟩))
 have D2 := D.push (x := .int (es.map fun e => AV.int e.nd).length) (n' := n') d.1 hu hs hr
 rw [List.length_append, List.length_set]
 exact D2
theorem f8_turn {fr : Fm} {m : Nat} {K : AFlow → Fm → Hp → Prop} (R : RS h0 k F S w) (hrk : ∀ i ∈ S.ks, ∀ j ∈ S.su i, j ∈ S.ks ∧ rk i < rk j) (hl : S.ks.length ≤ 900) (i : FI h0 S w rk m fr h)
  (k1 : ∀ fr h, Lss (FI h0 S w rk) m fr h → K .next fr h) (k2 : ∀ fr h, FG h0 S w rk fr h → K .brk fr h) : exStep (go (n + 7)) [.ite (.cmp .mem (.loc 9) (.loc 35)) [.ite (.cmp .mem (.loc 9) (.loc 36)) [.ret (.bin .add (.slice (.loc 33) (.idx (.loc 36) (.loc 9)) .none .none) (.list [(.loc 9)]))] []] [.expr (.meth (.loc 35) 7 [(.loc 9)] []), .expr (.meth (.loc 34) 0 [(.attr (.prim .iter [(.attr (.idx (.loc 27) (.loc 9)) 11)]) 8)] []), .asg [.idx (.loc 36) (.loc 9)] (.prim .len [(.loc 33)]), .expr (.meth (.loc 33) 0 [(.loc 9)] [])], .while (.loc 33) [.tryNext 9 34 36 33] [.brk]] fr h K := FI.casesOn i fun seen es u f e9 D hu hr em mW => by
 refine D.dict.elim fun de z => z.elim fun ver d => ?_
 by_cases hs : u ∈ seen
 ·have hk : u ∉ de.map (·.1) := fun z => (List.mem_map.mp (d.2 ▸ z)).elim fun e he => by
   have := hr e he.1; rw [he.2] at this; exact Nat.lt_irrefl _ this
  refine xIteT (eCmp (eLoc e9 (eLoc f.f35 (.memS D.set ⟨by rw [decide_eq_true hs]; rfl, xEnter ?_⟩))))
  refine xIteF (eCmp (eLoc e9 (eLoc f.f36 (.memD d.1 ⟨by rw [decide_eq_false hk]; rfl, xNil ?_⟩))))
  exact f8_in R hrk hl f D (Nat.le_of_eq em) mW k1 k2
 ·refine xIteE (eCmp (eLoc e9 (eLoc f.f35 (.memS D.set ⟨by rw [decide_eq_false hs]; rfl, xEnter (f8_new R hl f e9 D hu hs hr fun h' D2 => ?_)⟩))))
  exact f8_in R hrk hl f D2 (Nat.le_of_lt (em ▸ mu_push hu hs)) mW k1 k2
theorem f8_spec {Q : AV → Hp → Prop} (R : RS h0 k F S w) (hrk : ∀ i ∈ S.ks, ∀ j ∈ S.su i, j ∈ S.ks ∧ rk i < rk j) (hl : S.ks.length ≤ 900) (hW : (S.ks.map fun i => (S.su i).length + 2).sum < wB) (q : ∀ h', Kp (fun _ => False) h0 h' → Q .none h') :
  (go (n + 13)).cl (.fn 8) [.ref k] [] h0 Q := by
 refine cFn0 (f := f8) (b := [(12, .ref k)]) (h1 := h0) rfl rfl rfl rfl ?_
 refine xAsg (eAttr (eLoc rfl (aInst R.inst R.ns rfl ?_)))
 refine xAsg (eList (vNil (xAsg (eList (vNil (xAsg (ePrim (vNil (.set0 (xAsg (eDict ?_)))))))))))
 have D0 : DS h0 S w rk (h0 ++ [.list []] ++ [.list []] ++ [.set []] ++ [.dict [] 0]) [] [] := by
  refine ⟨Kp.refl.more.more.more.more, ?_, ?_, ?_, ⟨[], 0, ?_, rfl⟩, nofun, .nil, .nil, .nil, nofun⟩ <;> simp
 have hb : FS h0 w (((((Fm.set (F0 [(12, .ref k)]) 27 (.ref w.kd)).set 33 (.ref h0.length)).set 34 (.ref (h0 ++ [AObj.list []]).length)).set 35 (.ref (h0 ++ [AObj.list []] ++ [AObj.list []]).length)).set 36 (.ref (h0 ++ [AObj.list []] ++ [AObj.list []] ++ [AObj.set []]).length)) := ⟨rfl, rfl, by simp [Fm.set], by simp [Fm.set], by simp [Fm.set]⟩
 refine xForD .int S.ks (fun _ => FG h0 S w rk) (eLoc hb.f27 ⟨rfl, rfl⟩) (R.ext D0.kp).dict (congrArg some List.map_map) ⟨[], hb, D0⟩ (fun ds fr h j => FG.casesOn j fun seen f D => (R.ext D.kp).dict) (fun ds v rs fr h e j => FG.casesOn j fun seen f D => ?_) fun fr h j => FG.casesOn j fun seen f D => xRet (eNone (q h D.kp))
 by_cases hs : v ∈ seen
 ·exact xIteT (eCmp (eLoc rfl (eLoc f.set.f35 (.memS D.set ⟨by rw [decide_eq_true hs]; rfl, xEnter (xCont ⟨seen, f.set, D⟩)⟩))))
 ·refine xIteF (eCmp (eLoc rfl (eLoc f.set.f35 (.memS D.set ⟨by rw [decide_eq_false hs]; rfl, ?_⟩))))
  have mW := Nat.lt_of_le_of_lt (mu_top (S := S) (seen := seen)) hW
  refine xWhile (FI h0 S w rk) (mu S seen []) mW ⟨seen, [], v, f.set, rfl, D, mem_mid e, nofun, rfl, mW⟩ fun m fr1 h1 i => ?_
  exact eBool ⟨true, rfl, xEnter (f8_turn R hrk hl i (fun _ _ z => z) fun _ _ z => xNil z)⟩
end
end Mine
namespace Mine
noncomputable def Sr.prep (S : Sr) : Sr := { S with rd := some (S.ks.filter fun i => decide (S.np i = 0)) }
section
variable {h : Hp} {k : Nat} {F : Nat → Prop} {S : Sr} {w : Wit}
theorem RS.setNew (R : RS h k F S w) (hk : ¬F k) (hr : S.rd = none) (l : List Int) : Aft h F k { S with rd := some l } ((h ++ [AObj.list (l.map .int)]).set w.d (.ns [(14, .ref w.kd), (15, .ref h.length), (16, .int S.pa), (17, .int S.fi)])) (fun j => F j ∨ j = h.length) { w with kr := h.length } := by
 have g := fun (j : Nat) (o : AObj) (e : h[j]? = some o) (ne : w.d ≠ j) => get_set (o := .ns [(14, .ref w.kd), (15, .ref h.length), (16, .int S.pa), (17, .int S.fi)]) (get_app (t := [.list (l.map .int)]) e) ne
 have ld := lt_of_get R.ns
 refine ⟨⟨g _ _ R.inst (ne_of_get R.ns R.inst nofun), get_self (get_app R.ns), g _ _ R.dict (ne_of_get R.ns R.dict nofun), fun l' hl => ?_, fun j hj => ?_, fun j hj => g _ _ (R.suc j hj) (ne_of_get R.ns (R.suc j hj) nofun), R.sinj, R.nd, ⟨.inl R.own.1, .inl R.own.2.1, fun j hj => ⟨.inl (R.own.2.2 j hj).1, .inl (R.own.2.2 j hj).2⟩⟩, fun j hj => ?_⟩, ⟨by simp, fun j o hj e => g j o e fun z => hj (z ▸ R.own.1)⟩, fun j hj => hj.imp id fun z => by exact Z27 (Eq.symm z)⟩
 ·cases hl
  refine ⟨get_set (by simp) (show w.d ≠ h.length by exact Z24 ld), .inr rfl, fun i hi => ?_⟩
  have := lt_of_get (R.suc i hi); show w.sa i ≠ h.length; exact Z24 this
 ·obtain ⟨dj, a⟩ := R.node j hj
  exact ⟨dj, g _ _ a (ne_of_get R.ns a nofun)⟩
 ·rcases hj with z | z
  ·have := R.old j z; simp; exact Z28 this
  ·simp; exact Z17 (Z27 z)
theorem Aft.ext {h h1 h2 : Hp} {F F1 : Nat → Prop} {S1 : Sr} {w1 : Wit} (a : Aft h F k S1 h1 F1 w1) (kp : Kp (fun _ => False) h1 h2) : Aft h F k S1 h2 F1 w1 :=
 ⟨a.rs.ext kp, ⟨Nat.le_trans a.kp.len kp.len, fun j o hj e => kp.keep j o id (a.kp.keep j o hj e)⟩, a.fo⟩
end
section
variable {n : Nat} {h : Hp} {Q : AV → Hp → Prop} {k : Nat} {F : Nat → Prop} {S : Sr} {w : Wit} {rk : Int → Nat}
theorem f4_spec (R : RS h k F S w) (hr : S.rd = none) (hrk : ∀ i ∈ S.ks, ∀ j ∈ S.su i, j ∈ S.ks ∧ rk i < rk j) (hl : S.ks.length ≤ 900) (hW : (S.ks.map fun i => (S.su i).length + 2).sum < wB) (hkF : ¬F k) (q : ∀ h' F' w', Aft h F k S.prep h' F' w' → Q .none h') :
  (go (n + 17)).cl (.fn 4) [.ref k] [] h Q := by
 refine cFn0 (f := f4) (b := [(12, .ref k)]) (h1 := h) rfl rfl rfl rfl ?_
 have ns := R.ns
 rw [hr] at ns
 refine xIteF (eCmp (eAttr (eLoc rfl (aInst R.inst ns rfl (eNone (.isn ⟨rfl, ?_⟩))))))
 refine xAsgA (eComp (src_val (eAttr (eLoc rfl (aInst R.inst ns rfl (.mk R.dict ?_))))))
 refine ckP (fun i => .one (.ref (w.na i))) S.ks (fun i => decide (S.np i = 0)) .int (by rw [List.map_map]; rfl) R.dict (by exact Z14 hl (Nat.le_add_left 900 99100)) (fun i hi fr' ec => ?_) ?_
 ·obtain ⟨di, ei⟩ := R.node i hi
  refine .mk ⟨rfl, rfl, eCmp (eAttr (eLoc rfl (aNpredV ei rfl (eInt (cEq ⟨_, rfl, ?_⟩))))), fun _ => eAttr (eLoc rfl (aNodeV ei rfl ⟨rfl, rfl⟩))⟩
  by_cases c : S.np i = 0
  ·rw [decide_eq_true c]; exact ⟨rfl, rfl⟩
  ·rw [decide_eq_false c]; exact ⟨rfl, rfl⟩
 refine eLoc rfl (sInst (get_app R.inst) (get_app ns) (show (4 : Nat) < 1000 from by decide) ?_)
 have A := R.setNew hkF hr (S.ks.filter fun i => decide (S.np i = 0))
 refine xAsg (eOwn (j := 8) rfl (eLoc rfl ⟨k, _, rfl, A.rs.inst, vNil ?_⟩))
 refine f8_spec (n := n + 1) A.rs hrk hl hW fun h' kp => ?_
 exact xIteF (eLoc rfl ⟨rfl, xNil (q _ _ _ (A.ext kp))⟩)
end
end Mine
namespace Mine
noncomputable def bA1 : IStmt := .asg [.var (.loc 39)] (.bin .add (.loc 42) (.int 1))
noncomputable def bA2 : IStmt := .asg [.var (.loc 40)] (.loc 42)
noncomputable def bBody (s : Bool) (e : IExpr) : List IStmt := [.asg [.var (.loc 42)] (.bin .fdiv (.bin .add (.loc 39) (.loc 40)) (.int 2)), .ite e (cond s [bA1] [bA2]) (cond s [bA2] [bA1])]
section
variable {n : Nat} {h : Hp}
structure BI (fr0 : Fm) (I : Hp → Prop) (rt : Nat → Bool) (lo0 hi0 lo hi : Nat) (fr : Fm) (h : Hp) : Prop where
 same : ∀ y, y ≠ 39 → y ≠ 40 → y ≠ 42 → fr.loc y = fr0.loc y
 el : fr.loc 39 = some (.int lo)
 eh : fr.loc 40 = some (.int hi)
 l0 : lo0 ≤ lo
 l1 : lo ≤ hi
 l2 : hi ≤ hi0
 inv : I h
 left : ∀ i, lo0 ≤ i → i < lo → rt i = true
 right : ∀ i, hi ≤ i → i < hi0 → rt i = false
inductive BJ (fr0 : Fm) (I : Hp → Prop) (rt : Nat → Bool) (lo0 hi0 m : Nat) (fr : Fm) (h : Hp) : Prop | mk (lo hi : Nat) (b : BI fr0 I rt lo0 hi0 lo hi fr h) (em : hi - lo = m) : BJ fr0 I rt lo0 hi0 m fr h
theorem fset_ne {fr : Fm} {x y : Nat} {v : AV} (n : y ≠ x) : (fr.set x v).loc y = fr.loc y := if_neg n
section
variable {fr fr0 : Fm} {I : Hp → Prop} {rt : Nat → Bool} {lo0 hi0 lo hi mid : Nat} (b : BI fr0 I rt lo0 hi0 lo hi fr h) (mono : ∀ i j, lo0 ≤ i → i ≤ j → j < hi0 → rt j = true → rt i = true) (m1 : lo ≤ mid) (m2 : mid < hi) {h' : Hp} (iv : I h') {K : AFlow → Fm → Hp → Prop} (kk : ∀ fr h, Lss (BJ fr0 I rt lo0 hi0) (hi - lo) fr h → K .next fr h)
include b mono m1 m2 iv kk
theorem bis_up (z : rt mid = true) : exStep (go (n + 2)) [bA1] (fr.set 42 (.int mid)) h' K :=
 xAsg (eBin (eLoc rfl (eInt (oAdd (xNil (kk _ _ ⟨hi - (mid + 1), by lia, mid + 1, hi, ⟨fun y y1 y2 y3 => (fset_ne y1).trans ((fset_ne y3).trans (b.same y y1 y2 y3)), rfl, b.eh, Nat.le_trans b.l0 (Nat.le_succ_of_le m1), m2, b.l2, iv, fun i i1 i2 => mono i mid i1 (Nat.le_of_lt_succ i2) (Nat.lt_of_lt_of_le m2 b.l2) z, b.right⟩, rfl⟩))))))
theorem bis_dn (z : rt mid = false) : exStep (go (n + 2)) [bA2] (fr.set 42 (.int mid)) h' K :=
 xAsg (eLoc rfl (xNil (kk _ _ ⟨mid - lo, by lia, lo, mid, ⟨fun y y1 y2 y3 => (fset_ne y2).trans ((fset_ne y3).trans (b.same y y1 y2 y3)), b.el, rfl, b.l0, m1, Nat.le_trans (Nat.le_of_lt m2) b.l2, iv, b.left, fun i i1 i2 => Bool.eq_false_iff.mpr fun zi => Bool.eq_false_iff.mp z (mono mid i (Nat.le_trans b.l0 m1) i1 i2 zi)⟩, rfl⟩)))
end
theorem bis_loop {s : Bool} {e : IExpr} {fr fr0 : Fm} {I : Hp → Prop} {rt : Nat → Bool} {lo0 hi0 : Nat} {ss : List IStmt} {Q : AFlow → Fm → Hp → Prop} (b : BI fr0 I rt lo0 hi0 lo0 hi0 fr h) (hW : hi0 < wB)
  (mono : ∀ i j, lo0 ≤ i → i ≤ j → j < hi0 → rt j = true → rt i = true)
  (he : ∀ (fr : Fm) h m, (∀ y, y ≠ 39 → y ≠ 40 → y ≠ 42 → fr.loc y = fr0.loc y) → fr.loc 42 = some (.int (m : Nat)) → lo0 ≤ m → m < hi0 → I h → (go (n + 3)).ev e fr h fun v h' => v = .bool (rt m == s) ∧ I h')
  (q : ∀ fr h r, BI fr0 I rt lo0 hi0 r r fr h → exStep (go (n + 4)) ss fr h Q) : exStep (go (n + 4)) (.while (.cmp .lt (.loc 39) (.loc 40)) (bBody s e) [] :: ss) fr h Q := by
 refine xWhile (BJ fr0 I rt lo0 hi0) (hi0 - lo0) (by exact Z11 hW) ⟨lo0, hi0, b, rfl⟩ fun m fr h j => BJ.casesOn j fun lo hi b em => ?_
 subst em
 refine eCmp (eLoc b.el (eLoc b.eh (cLt ⟨_, rfl, ?_⟩)))
 by_cases c : lo < hi
 ·rw [decide_eq_true (by exact Z10 c), if_pos rfl]
  refine xEnter (xAsg (eBin (eBin (eLoc b.el (eLoc b.eh (oAdd (eInt (oFdiv (by decide) ?_))))))))
  rw [show Int.fdiv ((lo : Int) + hi) 2 = ((lo + hi) / 2 : Nat) from Int.fdiv_eq_ediv_of_nonneg _ (by decide)]
  generalize hm : (lo + hi) / 2 = mid
  have m1 : lo ≤ mid := by exact Z6 c hm
  have m2 : mid < hi := by exact Z9 c hm
  refine xIte (ev_mono (he _ h mid (fun y y1 y2 y3 => (fset_ne y3).trans (b.same y y1 y2 y3)) rfl (Nat.le_trans b.l0 m1) (Nat.lt_of_lt_of_le m2 b.l2) b.inv) fun v h' z => z.1 ▸ ⟨_, rfl, ?_⟩)
  cases z' : rt mid with
  | true => cases s with
   | true => exact xEnter (bis_up b mono m1 m2 z.2 (fun fr h i => i) z')
   | false => exact xEnter (bis_up b mono m1 m2 z.2 (fun fr h i => i) z')
  | false => cases s with
   | true => exact xEnter (bis_dn b mono m1 m2 z.2 (fun fr h i => i) z')
   | false => exact xEnter (bis_dn b mono m1 m2 z.2 (fun fr h i => i) z')
 ·rw [decide_eq_false (by exact Int.not_lt_of_ge (Z4 (Z3 c)))]
  exact xEnter (xNil (q fr h lo ((Nat.le_antisymm (Z3 c) b.l1 : hi = lo) ▸ b)))
end
end Mine
namespace Mine
noncomputable def bisB (s : Bool) (e1 e2 : IExpr) : List IStmt := [
 .ite (.cmp .lt (.loc 39) (.int 0)) [.fail] [],
 .ite (.cmp .is (.loc 40) .none) [.asg [.var (.loc 40)] (.prim .len [(.loc 37)])] [],
 .ite (.cmp .is (.loc 41) .none) [.while (.cmp .lt (.loc 39) (.loc 40)) (bBody s e1) []] [.while (.cmp .lt (.loc 39) (.loc 40)) (bBody s e2) []],
 .ret (.loc 39)]
structure At (rt : Nat → Bool) (lo hi r : Nat) : Prop where
 l0 : lo ≤ r
 l1 : r ≤ hi
 left : ∀ i, lo ≤ i → i < r → rt i = true
 right : ∀ i, r ≤ i → i < hi → rt i = false
section
variable {n : Nat} {h : Hp}
theorem bis_body {s : Bool} {e1 e2 e : IExpr} {fr : Fm} {ka lo hi : Nat} {row : List AV} {hv kv : AV} {Q : AFlow → Fm → Hp → Prop} (f37 : fr.loc 37 = some (.ref ka)) (f39 : fr.loc 39 = some (.int lo)) (f40 : fr.loc 40 = some hv) (f41 : fr.loc 41 = some kv)
  (hhi : hv = .none ∧ hi = row.length ∨ hv = .int hi) (hk : kv = .none ∧ e = e1 ∨ (∃ r, kv = .ref r) ∧ e = e2) (I : Hp → Prop) (i0 : I h) (ia : ∀ h', I h' → h'[ka]? = some (.list row)) (hlo : lo ≤ hi) (hW : hi < wB) (rt : Nat → Bool) (mono : ∀ i j, lo ≤ i → i ≤ j → j < hi → rt j = true → rt i = true)
  (he : ∀ (fr' : Fm) h' m, (∀ y, y ≠ 39 → y ≠ 40 → y ≠ 42 → fr'.loc y = fr.loc y) → fr'.loc 42 = some (.int (m : Nat)) → lo ≤ m → m < hi → I h' → (go (n + 3)).ev e fr' h' fun v h' => v = .bool (rt m == s) ∧ I h')
  (q : ∀ fr' h' r, I h' → At rt lo hi r → Q (.ret (.int r)) fr' h') : exStep (go (n + 5)) (bisB s e1 e2) fr h Q := by
 refine xIteF (eCmp (eLoc f39 (eInt (cLt ⟨by rw [decide_eq_false (by exact Int.not_lt_of_ge (Z12 lo))]; rfl, ?_⟩))))
 have cut : ∀ fr' : Fm, (∀ y, y ≠ 39 → y ≠ 40 → y ≠ 42 → fr'.loc y = fr.loc y) → fr'.loc 39 = some (.int lo) → fr'.loc 40 = some (.int hi) → exStep (go (n + 5)) [.ite (.cmp .is (.loc 41) .none) [.while (.cmp .lt (.loc 39) (.loc 40)) (bBody s e1) []] [.while (.cmp .lt (.loc 39) (.loc 40)) (bBody s e2) []], .ret (.loc 39)] fr' h Q := fun fr' sm g39 g40 => by
  have b0 : BI fr I rt lo hi lo hi fr' h := ⟨sm, g39, g40, Nat.le_refl _, hlo, Nat.le_refl _, i0, fun i a b => by exact Z2 b a, fun i a b => by exact Z2 b a⟩
  have g41 : fr'.loc 41 = some kv := (sm 41 (by decide) (by decide) (by decide)).trans f41
  rcases hk with ⟨k1, k2⟩ | ⟨⟨kr, k1⟩, k2⟩
  ·subst k1 k2
   refine xIteT (eCmp (eLoc g41 (eNone (cIsN ⟨rfl, xEnter ?_⟩))))
   exact bis_loop b0 hW mono he fun fr2 h2 r b => xNil (xRet (eLoc b.el (q _ _ r b.inv ⟨b.l0, b.l2, b.left, b.right⟩)))
  ·subst k1 k2
   refine xIteE (eCmp (eLoc g41 (eNone (cIsR ⟨rfl, xEnter ?_⟩))))
   exact bis_loop b0 hW mono he fun fr2 h2 r b => xNil (xRet (eLoc b.el (q _ _ r b.inv ⟨b.l0, b.l2, b.left, b.right⟩)))
 rcases hhi with ⟨z1, z2⟩ | z1
 ·subst z1 z2
  refine xIteT (eCmp (eLoc f40 (eNone (cIsN ⟨rfl, xEnter (xAsg (ePrim (vCons (eLoc f37 (vNil (.len row (.list (ia h i0)) (xNil ?_)))))))⟩))))
  exact cut _ (fun y y1 y2 y3 => by simp only [Fm.set]; rw [if_neg y2]) f39 rfl
 ·subst z1
  exact xIteF (eCmp (eLoc f40 (eNone (cIsI ⟨rfl, cut fr (fun _ _ _ _ => rfl) f39 f40⟩))))
end
section
variable {n : Nat} {h : Hp} {Q : AV → Hp → Prop}
theorem f11_plain {ka lo : Nat} {row : List Int} {x : Int} (ea : h[ka]? = some (.list (row.map .int))) (hs : row.Pairwise (· ≤ ·)) (hlo : lo ≤ row.length) (hW : row.length < wB)
  (q : ∀ r, At (fun i => decide (row.getD i 0 < x)) lo row.length r → Q (.int r) h) : (go (n + 7)).cl (.fn 11) [.ref ka, .int x, .int lo] [] h Q := by
 refine cFn0 (f := f11) (b := [(37, .ref ka), (38, .int x), (39, .int lo), (40, .none), (41, .none)]) (h1 := h) rfl rfl rfl rfl ?_
 refine bis_body (s := true) (e := .cmp .lt (.idx (.loc 37) (.loc 42)) (.loc 38)) (row := row.map .int) (hi := row.length) rfl rfl rfl rfl (.inl ⟨rfl, by simp⟩) (.inl ⟨rfl, rfl⟩) (· = h) rfl (fun h' e => e ▸ ea) hlo hW (fun i => decide (row.getD i 0 < x)) (fun i j l1 l2 l3 z => ?_) (fun fr' h' m sm e42 l1 l2 eh => ?_) fun fr' h' r eh b => ?_
 ·have z := of_decide_eq_true z
  refine decide_eq_true ?_
  rcases Nat.lt_or_eq_of_le l2 with l | l
  ·have := (List.pairwise_iff_getElem.mp hs) i j (by exact Z13 l l3) l3 l
   simp only [List.getD_eq_getElem?_getD, List.getElem?_eq_getElem l3, List.getElem?_eq_getElem (show i < row.length by exact Z13 l l3), Option.getD_some] at z ⊢
   lia
  ·subst l; exact z
 ·subst eh
  refine eCmp (eIdx (eLoc (sm 37 (by decide) (by decide) (by decide)) (eLoc e42 (.seq (v := .int (row.getD m 0)) (.list ea) (by exact Z12 m) ?_ (eLoc (sm 38 (by decide) (by decide) (by decide)) (cLt ⟨?_, rfl⟩))))))
  ·refine nat_at ?_
   rw [List.getElem?_map, List.getD_eq_getElem?_getD, List.getElem?_eq_getElem l2]; rfl
  ·cases decide (row.getD m 0 < x) <;> rfl
 ·subst eh; exact q r b
end
end Mine
namespace Mine
section
variable {n : Nat} {h : Hp} {Q : AV → Hp → Prop}
theorem f11_key {ka kk : Nat} {row : List Int} {x : Int} {val : Int → Int} (ea : h[ka]? = some (.list (row.map .int))) (hs : row.Pairwise (val · ≤ val ·)) (hW : row.length < wB)
  (hkey : ∀ j ∈ row, (go (n + 3)).cl (.ref kk) [.int j] [] h fun v h' => v = .int (val j) ∧ h' = h)
  (q : ∀ r, At (fun i => decide (val (row.getD i 0) < x)) 0 row.length r → Q (.int r) h) : (go (n + 9)).cl (.fn 11) [.ref ka, .int x] [(41, .ref kk)] h Q := by
 refine cFn0 (f := f11) (b := [(37, .ref ka), (38, .int x), (39, .int 0), (40, .none), (41, .ref kk)]) (h1 := h) rfl rfl rfl rfl ?_
 refine bis_body (s := true) (e := .cmp .lt (.call (.loc 41) [(.idx (.loc 37) (.loc 42))] [] [] []) (.loc 38)) (row := row.map .int) (lo := 0) (hi := row.length) rfl rfl rfl rfl (.inl ⟨rfl, by simp⟩) (.inr ⟨⟨kk, rfl⟩, rfl⟩) (· = h) rfl (fun h' e => e ▸ ea) (Nat.zero_le _) hW (fun i => decide (val (row.getD i 0) < x)) (fun i j l1 l2 l3 z => ?_) (fun fr' h' m sm e42 l1 l2 eh => ?_) fun fr' h' r eh b => ?_
 ·have z := of_decide_eq_true z
  refine decide_eq_true ?_
  rcases Nat.lt_or_eq_of_le l2 with l | l
  ·have := (List.pairwise_iff_getElem.mp hs) i j (by exact Z13 l l3) l3 l
   simp only [List.getD_eq_getElem?_getD, List.getElem?_eq_getElem l3, List.getElem?_eq_getElem (show i < row.length by exact Z13 l l3), Option.getD_some] at z ⊢
   lia
  ·subst l; exact z
 ·subst eh
  refine eCmp (eCall (eLoc (sm 41 (by decide) (by decide) (by decide)) (vCons (eIdx (eLoc (sm 37 (by decide) (by decide) (by decide)) (eLoc e42 (.seq (v := .int (row.getD m 0)) (.list ea) (by exact Z12 m) ?_ (vNil (vNil (cl_mono (hkey _ ?_) fun v h' ⟨e1, e2⟩ => ?_))))))))))
  ·refine nat_at ?_
   rw [List.getElem?_map, List.getD_eq_getElem?_getD, List.getElem?_eq_getElem l2]; rfl
  ·rw [List.getD_eq_getElem?_getD, List.getElem?_eq_getElem l2]; exact List.getElem_mem l2
  ·subst e1 e2
   refine eLoc (sm 38 (by decide) (by decide) (by decide)) (cLt ⟨?_, rfl⟩)
   cases decide (val (row.getD m 0) < x) <;> rfl
 ·subst eh; exact q r b
theorem f10_plain {ka lo hi : Nat} {hv : AV} {row : List Int} {x : Int} (ea : h[ka]? = some (.list (row.map .int))) (hhi : hv = .none ∧ hi = row.length ∨ hv = .int hi ∧ hi ≤ row.length) (hs : ∀ i j, lo ≤ i → i ≤ j → j < hi → row.getD i 0 ≤ row.getD j 0) (hlo : lo ≤ hi) (hW : hi < wB)
  (q : ∀ r, At (fun i => decide (row.getD i 0 ≤ x)) lo hi r → Q (.int r) h) : (go (n + 9)).cl (.fn 10) [.ref ka, .int x, .int lo, hv] [] h Q := by
 refine cFn0 (f := f10) (b := [(37, .ref ka), (38, .int x), (39, .int lo), (40, hv), (41, .none)]) (h1 := h) rfl rfl rfl rfl ?_
 have hl : hi ≤ row.length := by lia
 refine bis_body (s := false) (e := .cmp .lt (.loc 38) (.idx (.loc 37) (.loc 42))) (row := row.map .int) (hi := hi) rfl rfl rfl rfl (hhi.imp (fun z => ⟨z.1, by simpa using z.2⟩) fun z => z.1) (.inl ⟨rfl, rfl⟩) (· = h) rfl (fun h' e => e ▸ ea) hlo hW (fun i => decide (row.getD i 0 ≤ x)) (fun i j l1 l2 l3 z => ?_) (fun fr' h' m sm e42 l1 l2 eh => ?_) fun fr' h' r eh b => ?_
 ·have z := of_decide_eq_true z
  have := hs i j l1 l2 l3
  exact decide_eq_true (by lia)
 ·subst eh
  have l2' : m < row.length := by exact Z7 l2 hl
  refine eCmp (eLoc (sm 38 (by decide) (by decide) (by decide)) (eIdx (eLoc (sm 37 (by decide) (by decide) (by decide)) (eLoc e42 (.seq (v := .int (row.getD m 0)) (.list ea) (by exact Z12 m) ?_ (cLt ⟨?_, rfl⟩))))))
  ·refine nat_at ?_
   rw [List.getElem?_map, List.getD_eq_getElem?_getD, List.getElem?_eq_getElem l2']; rfl
  ·congr 1
   by_cases c : row.getD m 0 ≤ x
   ·rw [decide_eq_true c, decide_eq_false (by exact Int.not_lt_of_ge c)]; rfl
   ·rw [decide_eq_false c, decide_eq_true (by exact Int.lt_of_not_ge c)]; rfl
 ·subst eh; exact q r b
theorem f10_key {ka kk lo hi : Nat} {hv xk : AV} {row : List AV} (hhi : hv = .none ∧ hi = row.length ∨ hv = .int hi ∧ hi ≤ row.length) (hlo : lo ≤ hi) (hW : hi < wB) (rt : Nat → Bool) (mono : ∀ i j, lo ≤ i → i ≤ j → j < hi → rt j = true → rt i = true)
  (I : Hp → Prop) (i0 : I h) (ia : ∀ h', I h' → h'[ka]? = some (.list row)) (hk : ∀ h' m v, I h' → lo ≤ m → m < hi → row[m]? = some v → (go (n + 3)).cl (.ref kk) [v] [] h' fun u h'' => (∀ C : Bool → Prop, C (rt m == false) → cmpop h'' C .lt xk u) ∧ I h'')
  (q : ∀ h' r, I h' → At rt lo hi r → Q (.int r) h') : (go (n + 9)).cl (.fn 10) [.ref ka, xk, .int lo, hv] [(41, .ref kk)] h Q := by
 refine cFn0 (f := f10) (b := [(37, .ref ka), (38, xk), (39, .int lo), (40, hv), (41, .ref kk)]) (h1 := h) rfl rfl rfl rfl ?_
 have hl : hi ≤ row.length := by lia
 refine bis_body (s := false) (e := .cmp .lt (.loc 38) (.call (.loc 41) [(.idx (.loc 37) (.loc 42))] [] [] [])) (row := row) (hi := hi) rfl rfl rfl rfl (hhi.imp id fun z => z.1) (.inr ⟨⟨kk, rfl⟩, rfl⟩) I i0 ia hlo hW rt mono (fun fr' h' m sm e42 l1 l2 ih => ?_) fun fr' h' r ih b => q h' r ih b
 have l2' : m < row.length := by exact Z7 l2 hl
 refine eCmp (eLoc (sm 38 (by decide) (by decide) (by decide)) (eCall (eLoc (sm 41 (by decide) (by decide) (by decide)) (vCons (eIdx (eLoc (sm 37 (by decide) (by decide) (by decide)) (eLoc e42 (.seq (v := row[m]) (.list (ia h' ih)) (by exact Z12 m) (nat_at (List.getElem?_eq_getElem l2')) (vNil (vNil (cl_mono (hk h' m _ ih l1 l2 (List.getElem?_eq_getElem l2')) fun u h'' ⟨c, ih⟩ => ?_)))))))))))
 exact c _ ⟨rfl, ih⟩
theorem f9_key {ka kk lo hi : Nat} {hv xv : AV} {row : List AV} {as : List AV} (has : as = [.ref ka, xv] ∧ lo = 0 ∧ hv = .none ∨ as = [.ref ka, xv, .int lo, hv]) (hhi : hv = .none ∧ hi = row.length ∨ hv = .int hi ∧ hi ≤ row.length) (hlo : lo ≤ hi) (hW : hi < wB) (hl : row.length ≤ 50000) (rt : Nat → Bool) (mono : ∀ i j, lo ≤ i → i ≤ j → j < hi → rt j = true → rt i = true)
  (J : Hp → Prop)
  (hx : (go (n + 8)).cl (.ref kk) [xv] [] h fun xk h1 => ∃ I : Hp → Prop, I h1 ∧ (∀ h', I h' → h'[ka]? = some (.list row) ∧ J h') ∧ ∀ h' m v, I h' → lo ≤ m → m < hi → row[m]? = some v → (go (n + 3)).cl (.ref kk) [v] [] h' fun u h'' => (∀ C : Bool → Prop, C (rt m == false) → cmpop h'' C .lt xk u) ∧ I h'')
  (q : ∀ h' r, J h' → h'[ka]? = some (.list row) → At rt lo hi r → Q .none (h'.set ka (.list (row.take r ++ xv :: row.drop r)))) : (go (n + 13)).cl (.fn 9) as [(41, .ref kk)] h Q := by
 refine cFn0 (f := f9) (b := [(37, .ref ka), (38, xv), (39, .int lo), (40, hv), (41, .ref kk)]) (h1 := h) rfl rfl rfl (by rcases has with ⟨e1, e2, e3⟩ | e1; (subst e1 e2 e3; rfl); (subst e1; rfl)) ?_
 refine xIteE (eCmp (eLoc rfl (eNone (cIsR ⟨rfl, xEnter (xAsg (eCall (eFn (vCons (eLoc rfl (vCons (eCall (eLoc rfl (vCons (eLoc rfl (vNil (vNil (cl_mono hx fun xk h1 ⟨I, i0, ia, hk⟩ => ?_)))))))))))))⟩))))
 refine vCons (eLoc rfl (vCons (eLoc rfl (vNil (vCons (eLoc rfl (vNil ?_)))))))
 refine f10_key (n := n) hhi hlo hW rt mono I i0 (fun h' i => (ia h' i).1) hk fun h' r ih at' => xNil ?_
 obtain ⟨e, j⟩ := ia h' ih
 have := at'.l1
 have hl' : hi ≤ row.length := by lia
 refine xExpr (eMeth (by decide) (eLoc rfl ⟨ka, row, rfl, e, vCons (eLoc rfl (vCons (eLoc rfl (vNil (bInsert e (by exact Z14 hl (Nat.le_add_left 50000 50000)) (by exact Z12 r) (by exact Z4 (Z14 this hl')) (xNil ?_))))))⟩))
 exact q h' r j e at'
theorem f9_plain {ka lo : Nat} {row : List Int} {x : Int} (ea : h[ka]? = some (.list (row.map .int))) (hs : ∀ i j, lo ≤ i → i ≤ j → j < row.length → row.getD i 0 ≤ row.getD j 0) (hlo : lo ≤ row.length) (hW : row.length < wB) (hl : row.length ≤ 50000)
  (q : ∀ r, At (fun i => decide (row.getD i 0 ≤ x)) lo row.length r → Q .none (h.set ka (.list ((row.take r ++ x :: row.drop r).map .int)))) : (go (n + 13)).cl (.fn 9) [.ref ka, .int x, .int lo] [] h Q := by
 refine cFn0 (f := f9) (b := [(37, .ref ka), (38, .int x), (39, .int lo), (40, .none), (41, .none)]) (h1 := h) rfl rfl rfl rfl ?_
 refine xIteT (eCmp (eLoc rfl (eNone (cIsN ⟨rfl, xEnter (xAsg (eCall (eFn (vCons (eLoc rfl (vCons (eLoc rfl (vCons (eLoc rfl (vCons (eLoc rfl (vNil (vNil ?_)))))))))))))⟩))))
 refine f10_plain (n := n) ea (.inl ⟨rfl, rfl⟩) hs hlo hW fun r at' => xNil ?_
 have := at'.l1
 refine xExpr (eMeth (by decide) (eLoc rfl ⟨ka, _, rfl, ea, vCons (eLoc rfl (vCons (eLoc rfl (vNil (bInsert ea (by simp; exact Z14 hl (Nat.le_add_left 50000 50000)) (by exact Z12 r) (by simp; exact this) (xNil ?_))))))⟩))
 have := q r at'
 rw [List.map_append, List.map_cons, List.map_take, List.map_drop] at this
 exact this
end
end Mine
namespace Mine
theorem compB_cons {r : Rec} {elt : IExpr} {pat : IPat} {src : ISrc} {ifs : List IExpr} {gs : List IGen} {fr : Fm} {h : Hp} {acc : List AV} {Q : Fm → Hp → List AV → Prop} (q : srcE r src fr h fun items chk h =>
   loopC chk (fun it fr h acc Q => bindPat fr h (fun fr h => tsts r ifs fr h fun b h => if b then compB r elt gs fr h acc Q else Q fr h acc) pat it) Q items fr h acc) : compB r elt (.mk pat src ifs :: gs) fr h acc Q := by
 rw [compB]; exact q
noncomputable abbrev Gr (h h' : Hp) : Prop := Kp (fun _ => False) h h'
theorem Kp.get {h h' : Hp} {j : Nat} {o : AObj} (g : Gr h h') (e : h[j]? = some o) : h'[j]? = some o := g.keep j o id e
theorem Kp.tr {h h' h'' : Hp} (g : Gr h h') (g' : Gr h' h'') : Gr h h'' := g.trans g' fun _ z => z.elim
section
variable {n : Nat} {fr : Fm} {h : Hp} {ss : List IStmt} {Q : AFlow → Fm → Hp → Prop}
theorem cFn {k : Nat} {f : IFn} {as : List AV} {kw b : List (Nat × AV)} {h1 : Hp} {Q : AV → Hp → Prop} (hf : prog.fns[k]? = some f) (hd : f.isDef = true) (hb : abind f as kw h = some (b, h1)) (q : exStep (go n) f.body (enterF f [] b h1).1 (enterF f [] b h1).2 (onRet Q)) : (go (n + 1 + 1)).cl (.fn k) as kw h Q := mE (.fn hf hd ⟨b, h1, hb, mX q⟩)
theorem cLam {k j : Nat} {cs : List (Nat × Nat)} {f : IFn} {as : List AV} {kw b : List (Nat × AV)} {h1 : Hp} {Q : AV → Hp → Prop} (hk : h[k]? = some (.clos j cs)) (hf : prog.fns[j]? = some f) (hd : f.isDef = false) (hb : abind f as kw h = some (b, h1)) (q : exStep (go n) f.body (enterF f cs b h1).1 (enterF f cs b h1).2 (onRet Q)) : (go (n + 1 + 1)).cl (.ref k) as kw h Q := mE (.ref hk hf hd ⟨b, h1, hb, mX q⟩)
theorem eLam {k : Nat} {f : IFn} {cs : List (Nat × Nat)} {Q : AV → Hp → Prop} (hf : prog.fns[k]? = some f) (hc : lamCells fr f.free = some cs) (q : Q (.ref h.length) (h ++ [.clos k cs])) : (go (n + 1)).ev (.lam k) fr h Q := mE ⟨f, cs, hf, hc, q⟩
theorem eKey {e f : IExpr} {Q : AV → Hp → Prop} (q : (go n).ev e fr h fun v h => (go n).ev f fr h fun f h => SortG f h v fun xs => keysG (go n) f xs h fun ks h => Q (.ref h.length) (h ++ [.list ((sortS (ks.zip xs)).map (·.2))])) : (go (n + 1)).ev (.sortKey e f) fr h Q := mE q
theorem keys_pure {f : AV} {val : Int → Int} {Q : List Int → Hp → Prop} : ∀ {xs : List Int}, (∀ x ∈ xs, (go n).cl f [.int x] [] h fun v h' => v = .int (val x) ∧ h' = h) → Q (xs.map val) h → keysG (go n) f (xs.map .int) h Q
 | [], _, q => q
 | x :: xs, hk, q => cl_mono (hk x (.head _)) fun v h' ⟨e1, e2⟩ => ⟨val x, e1, e2 ▸ keys_pure (fun y hy => hk y (.tail _ hy)) q⟩
theorem gIdx {k : Nat} {xs : List Int} {i : Int} {Q : AV → Prop} (e : Lst h (.ref k) (xs.map .int)) (l0 : 0 ≤ i) (l1 : i < xs.length) (q : Q (.int (xs.getD i.toNat 0))) : getIdx h Q (.ref k) (.int i) := by
 have e' : Sq h (.ref k) (xs.map .int) := by
  cases e with
  | list e => exact .list e
  | ro e => exact .ro e
 have lt : i.toNat < xs.length := by exact Z15 l0 l1
 refine .seq e' l0 ?_ q
 rw [List.getElem?_map, List.getD_eq_getElem?_getD, List.getElem?_eq_getElem lt]; rfl
theorem lst_l {k : Nat} {xs : List AV} (e : h[k]? = some (.list xs)) : Lst h (.ref k) xs := .list e
theorem seq_l {k : Nat} {xs : List AV} (e : h[k]? = some (.list xs)) : Sq h (.ref k) xs := .list e
theorem seq_t {k : Nat} {xs : List AV} (e : h[k]? = some (.tuple xs)) : Sq h (.ref k) xs := .tuple e
theorem ints_map : ∀ (xs : List Int), ints? (xs.map .int) = some xs
 | [] => rfl
 | x :: xs => by simp [ints?, ints_map xs]
theorem lints_l {k : Nat} {xs : List Int} (e : h[k]? = some (.list (xs.map .int))) : LI h (.ref k) xs := ⟨_, .list e, ints_map xs⟩
theorem clamp_n {n i : Nat} : clampI n (i : Int) = min i n := by unfold clampI; rw [if_neg (Int.not_lt_of_ge (Int.natCast_nonneg i))]; lia
theorem slcHi {xs : List AV} {r : Nat} : Slc xs .none (.int r) .none (xs.take r) := by
 have e : boundHi xs.length (.int r) = some (min r xs.length) := congrArg some clamp_n
 have := Slc.std (rfl : boundLo xs.length .none = some 0) e
 rw [List.drop_zero, ← List.take_eq_take_min] at this
 exact this
theorem slcLo {xs : List AV} {l : Nat} : Slc xs (.int l) .none .none (xs.drop l) := by
 have e : boundLo xs.length (.int l) = some (min l xs.length) := congrArg some clamp_n
 have := Slc.std e (rfl : boundHi xs.length .none = some xs.length)
 rw [List.take_length] at this
 rcases Nat.le_total l xs.length with z | z
 ·rwa [Nat.min_eq_left z] at this
 ·rw [Nat.min_eq_right z, List.drop_length] at this
  rwa [List.drop_eq_nil_of_le z]
theorem slc_hi {D : List Int} {r : Nat} : Slc (D.map AV.int) .none (.int r) .none ((D.take r).map .int) := List.map_take ▸ slcHi
theorem slc_lo {D : List Int} {l : Nat} : Slc (D.map AV.int) (.int l) .none .none ((D.drop l).map .int) := List.map_drop ▸ slcLo
end
section
variable {n : Nat} {h : Hp} {fr : Fm} {Q : AV → Hp → Prop}
theorem ckD {α : Type} {elt : IExpr} {pat : IPat} {ifs : List IExpr} {gs : List IGen} {own free : List Nat} {chk : Hp → Prop} {its : List Item} (ι : α → Item) (as : List α) (J : List α → Hp → List AV → Prop) (hits : its = as.map ι) (i0 : J [] (h ++ own.map fun _ => .cell none) []) (hc : ∀ ds h' acc, J ds h' acc → chk h')
  (body : ∀ ds a rs fr' h' acc, as = ds ++ a :: rs → fr'.cel = (compF own free fr h).cel → J ds h' acc → bindPat fr' h' (fun fr2 h2 => tsts (go n) ifs fr2 h2 fun b h3 => if b then compB (go n) elt gs fr2 h3 acc (fun fr4 h4 acc' => fr4.cel = (compF own free fr h).cel ∧ J (ds ++ [a]) h4 acc') else fr2.cel = (compF own free fr h).cel ∧ J (ds ++ [a]) h3 acc) pat (ι a))
  (q : ∀ h' acc, J as h' acc → Q (.ref h'.length) (h' ++ [.list acc])) : CompK (go n) pat ifs elt gs own free fr Q its chk h := by
 subst hits
 suffices key : ∀ rs ds fr' h' acc, as = ds ++ rs → fr'.cel = (compF own free fr h).cel → J ds h' acc → loopC chk (fun it fr h acc Q => bindPat fr h (fun fr h => tsts (go n) ifs fr h fun b h => if b then compB (go n) elt gs fr h acc Q else Q fr h acc) pat it) (fun _ h acc => Q (.ref h.length) (h ++ [.list acc])) (rs.map ι) fr' h' acc from key as [] _ _ _ rfl rfl i0
 intro rs
 induction rs with
 | nil => exact fun ds fr' h' acc e ec j => ⟨hc _ _ _ j, q h' acc (by rw [e, List.append_nil]; exact j)⟩
 | cons a rs ih => exact fun ds fr' h' acc e ec j => ⟨hc _ _ _ j, ⟨_, body ds a rs fr' h' acc e ec j, fun fr h acc z => ih _ fr h acc (by rw [e, List.append_assoc]; rfl) z.1 z.2⟩⟩
end
end Mine
namespace Mine
noncomputable def ins (l : List Int) (i : Int) : List Int := if i ∈ l then l else l ++ [i]
theorem mem_ins {l : List Int} {i j : Int} : j ∈ ins l i ↔ j ∈ l ∨ j = i := by
 unfold ins; split
 ·rename_i h; exact ⟨.inl, fun z => z.elim id fun e => e ▸ h⟩
 ·simp
theorem mem_inss {j : Int} : ∀ {ps l : List Int}, j ∈ ps.foldl ins l ↔ j ∈ l ∨ j ∈ ps
 | [], l => by simp
 | p :: ps, l => by rw [List.foldl_cons, mem_inss, mem_ins, List.mem_cons, or_assoc]
structure Clean (S : Sr) : Prop where
 np : ∀ i, i ∉ S.ks → S.np i = 0
 su : ∀ i, i ∉ S.ks → S.su i = []
theorem upd_same {α : Type} {f : Int → α} {i : Int} {v : α} (h : f i = v) : upd f i v = f := by
 funext j; unfold upd; split
 ·rename_i e; rw [e, h]
 ·rfl
theorem info_eq {S : Sr} (c : Clean S) (i : Int) : S.info i = { S with ks := ins S.ks i } := by
 unfold Sr.info ins
 split
 ·rfl
 ·rename_i hi; rw [upd_same (c.np i hi), upd_same (c.su i hi)]
theorem link_eq {S : Sr} (c : Clean S) (i p : Int) : S.link i p = { S with ks := ins S.ks p, su := upd S.su p (S.su p ++ [i]) } := by unfold Sr.link; rw [info_eq c]
theorem link_clean {S : Sr} (c : Clean S) (i p : Int) : Clean (S.link i p) := by
 rw [link_eq c]
 refine ⟨fun j hj => c.np j fun z => hj (mem_ins.mpr (.inl z)), fun j hj => ?_⟩
 show upd S.su p _ j = []
 rw [upd_ne (fun e => hj (mem_ins.mpr (.inr e)))]
 exact c.su j fun z => hj (mem_ins.mpr (.inl z))
theorem links_eq {i : Int} : ∀ {ps : List Int} {S : Sr}, Clean S → Clean (ps.foldl (fun S p => S.link i p) S) ∧ (ps.foldl (fun S p => S.link i p) S).ks = ps.foldl ins S.ks ∧ (ps.foldl (fun S p => S.link i p) S).np = S.np ∧ (∀ p, (ps.foldl (fun S p => S.link i p) S).su p = S.su p ++ List.replicate (ps.count p) i) ∧ (ps.foldl (fun S p => S.link i p) S).rd = S.rd ∧ (ps.foldl (fun S p => S.link i p) S).pa = S.pa ∧ (ps.foldl (fun S p => S.link i p) S).fi = S.fi
 | [], S, c => ⟨c, rfl, rfl, fun p => by simp, rfl, rfl, rfl⟩
 | p :: ps, S, c => by
  obtain ⟨a1, a2, a3, a4, a5, a6, a7⟩ := links_eq (i := i) (ps := ps) (link_clean c i p)
  have e := link_eq c i p
  simp only [List.foldl_cons]
  refine ⟨a1, a2.trans (by rw [e]), a3.trans (by rw [e]), fun x => ?_, a5.trans (by rw [e]), a6.trans (by rw [e]), a7.trans (by rw [e])⟩
  rw [a4, e]
  show upd S.su p _ x ++ _ = _
  by_cases z : x = p
  ·subst z; rw [upd_eq, List.count_cons_self, List.append_assoc]; rfl
  ·rw [upd_ne z, List.count_cons_of_ne (fun w => z w.symm)]
noncomputable def built (adds : List (Int × List Int)) : Sr := adds.foldl (fun S a => S.add a.1 a.2) S0
structure Bt (adds : List (Int × List Int)) (S : Sr) : Prop where
 cl : Clean S
 ks : S.ks = (adds.flatMap fun a => a.1 :: a.2).foldl ins []
 np : ∀ i, S.np i = ((adds.map fun a => if a.1 = i then a.2.length else 0).sum : Nat)
 su : ∀ p, S.su p = adds.flatMap fun a => List.replicate (a.2.count p) a.1
 rd : S.rd = none
 pa : S.pa = 0
 fi : S.fi = 0
theorem bt_snoc {ds : List (Int × List Int)} {S : Sr} (b : Bt ds S) (i : Int) (ps : List Int) : Bt (ds ++ [(i, ps)]) (S.add i ps) := by
 have e : ({ S.info i with np := upd (S.info i).np i ((S.info i).np i + ps.length) } : Sr) = { S with ks := ins S.ks i, np := upd S.np i (S.np i + ps.length) } := by rw [info_eq b.cl]
 have c : Clean { S with ks := ins S.ks i, np := upd S.np i (S.np i + ps.length) } := by
  refine ⟨fun j hj => ?_, fun j hj => b.cl.su j fun z => hj (mem_ins.mpr (.inl z))⟩
  show upd S.np i _ j = 0
  rw [upd_ne (fun e => hj (mem_ins.mpr (.inr e)))]
  exact b.cl.np j fun z => hj (mem_ins.mpr (.inl z))
 obtain ⟨a1, a2, a3, a4, a5, a6, a7⟩ := links_eq (i := i) (ps := ps) c
 rw [← e] at a1 a2 a3 a4 a5 a6 a7
 have ea : S.add i ps = ps.foldl (fun S p => S.link i p) { S.info i with np := upd (S.info i).np i ((S.info i).np i + ps.length) } := rfl
 rw [← ea] at a1 a2 a3 a4 a5 a6 a7
 rw [e] at a2 a3 a4 a5 a6 a7
 refine ⟨a1, ?_, fun j => ?_, fun p => ?_, a5.trans b.rd, a6.trans b.pa, a7.trans b.fi⟩
 ·rw [a2, List.flatMap_append, List.foldl_append, ← b.ks]; simp
 ·rw [a3]
  show upd S.np i _ j = _
  simp only [List.map_append, List.sum_append, List.map_cons, List.map_nil, List.sum_cons, List.sum_nil]
  by_cases z : j = i
  ·subst z; rw [upd_eq, b.np]; simp
  ·rw [upd_ne z, b.np, if_neg (fun w => z w.symm)]; simp
 ·rw [a4, List.flatMap_append, b.su]; simp
theorem bt_of : ∀ (ds rs : List (Int × List Int)) (S : Sr), Bt ds S → Bt (ds ++ rs) (rs.foldl (fun S a => S.add a.1 a.2) S)
 | ds, [], S, b => by simpa using b
 | ds, (i, ps) :: rs, S, b => by
  have := bt_of (ds ++ [(i, ps)]) rs _ (bt_snoc b i ps)
  simpa using this
theorem built_bt (adds : List (Int × List Int)) : Bt adds (built adds) := by
 have := bt_of [] adds S0 ⟨⟨fun _ _ => rfl, fun _ _ => rfl⟩, rfl, fun _ => rfl, fun _ => rfl, rfl, rfl, rfl⟩
 exact this
theorem built_snoc (ds : List (Int × List Int)) (a : Int × List Int) : built (ds ++ [a]) = (built ds).add a.1 a.2 := by unfold built; rw [List.foldl_append]; rfl
theorem Bt.memk {adds : List (Int × List Int)} {S : Sr} (b : Bt adds S) {j : Int} : j ∈ S.ks ↔ ∃ a ∈ adds, j = a.1 ∨ j ∈ a.2 := by
 rw [b.ks, mem_inss]; simp
theorem Bt.mems {adds : List (Int × List Int)} {S : Sr} (b : Bt adds S) {p j : Int} : j ∈ S.su p ↔ ∃ a ∈ adds, j = a.1 ∧ p ∈ a.2 := by
 rw [b.su, List.mem_flatMap]
 constructor
 ·rintro ⟨a, ha, z⟩
  obtain ⟨z1, z2⟩ := List.mem_replicate.mp z
  exact ⟨a, ha, z2, List.count_pos_iff.mp (by exact Z48 (Nat.zero_le (List.count p (Prod.snd a))) z1)⟩
 ·rintro ⟨a, ha, z1, z2⟩
  exact ⟨a, ha, List.mem_replicate.mpr ⟨by have := List.count_pos_iff.mpr z2; lia, z1⟩⟩
theorem Bt.lens {adds : List (Int × List Int)} {S : Sr} (b : Bt adds S) {m : Nat} (hm : ∀ a ∈ adds, a.2.length ≤ m) (p : Int) : (S.su p).length ≤ adds.length * m := by
 rw [b.su]
 clear b
 induction adds with
 | nil => simp
 | cons a adds ih =>
  have := ih fun a ha => hm a (.tail _ ha)
  have := hm a (.head _)
  have := List.count_le_length (a := p) (l := a.2)
  simp only [List.flatMap_cons, List.length_append, List.length_replicate, List.length_cons, Nat.add_mul]
  lia
end Mine
namespace Mine
structure Adds (adds : List (Int × List Int)) (N : List Int) (rk : Int → Nat) : Prop where
 nl : N.length ≤ 200
 al : adds.length ≤ 200
 pl : ∀ a ∈ adds, a.2.length ≤ 200
 mem : ∀ a ∈ adds, a.1 ∈ N ∧ ∀ p ∈ a.2, p ∈ N ∧ rk p < rk a.1
theorem Adds.ksl {adds : List (Int × List Int)} {N : List Int} {rk : Int → Nat} (A : Adds adds N rk) {ds rs : List (Int × List Int)} (e : adds = ds ++ rs) (nd : (built ds).ks.Nodup) : (built ds).ks.length ≤ 200 := by
 refine Nat.le_trans (nodup_len nd fun i hi => ?_) A.nl
 obtain ⟨a, ha, z⟩ := (built_bt ds).memk.mp hi
 have := A.mem a (by rw [e]; exact List.mem_append_left _ ha)
 rcases z with z | z
 ·rw [z]; exact this.1
 ·exact (this.2 i z).1
theorem Adds.sul {adds : List (Int × List Int)} {N : List Int} {rk : Int → Nat} (A : Adds adds N rk) {ds rs : List (Int × List Int)} (e : adds = ds ++ rs) (p : Int) : ((built ds).su p).length ≤ 40000 := by
 have := (built_bt ds).lens (m := 200) (fun a ha => A.pl a (by rw [e]; exact List.mem_append_left _ ha)) p
 have := A.al
 have : ds.length ≤ adds.length := by rw [e]; simp
 lia
theorem sum_le {f : Int → Nat} {m : Nat} (hm : ∀ i, f i ≤ m) : ∀ l : List Int, (l.map f).sum ≤ l.length * m
 | [] => by simp
 | a :: l => by have := sum_le hm l; have := hm a; simp [Nat.add_mul]; lia
section
variable {n : Nat} {h : Hp} {Q : AV → Hp → Prop} {k : Nat} {F : Nat → Prop} {w : Wit}
theorem prep_spec {adds : List (Int × List Int)} {N : List Int} {rk : Int → Nat} (A : Adds adds N rk) (R : RS h k F (built adds) w) (hkF : ¬F k) (q : ∀ h' F' w', Aft h F k (built adds).prep h' F' w' → Q .none h') : (go (n + 17)).cl (.fn 4) [.ref k] [] h Q := by
 have b := built_bt adds
 have e0 : adds = adds ++ [] := by simp
 have kl := A.ksl e0 R.nd
 refine f4_spec (rk := rk) R b.rd (fun i hi j hj => ?_) (by exact Z14 kl (Nat.le_add_left 200 700)) ?_ hkF q
 ·obtain ⟨a, ha, z1, z2⟩ := b.mems.mp hj
  exact ⟨b.memk.mpr ⟨a, ha, .inl z1⟩, z1 ▸ ((A.mem a ha).2 i z2).2⟩
 ·have := sum_le (f := fun i => ((built adds).su i).length + 2) (m := 40002) (fun i => by have := A.sul e0 i; lia) (built adds).ks
  show _ < 10000000
  lia
end
theorem Gr.aft {h h1 h2 : Hp} {F : Nat → Prop} (g : Gr h h1) (kp : Kp F h1 h2) (fn : ∀ j, F j → h.length ≤ j) : Gr h h2 := ⟨Nat.le_trans g.len kp.len, fun j o _ e => kp.keep j o (fun z => Nat.lt_irrefl _ (Nat.lt_of_lt_of_le (lt_of_get e) (fn j z))) (g.get e)⟩
theorem Gr.own {h h1 : Hp} {F F2 : Nat → Prop} (g : Gr h h1) (fo : ∀ j, F2 j → F j ∨ h1.length ≤ j) (fn : ∀ j, F j → h.length ≤ j) : ∀ j, F2 j → h.length ≤ j := fun j z => (fo j z).elim (fn j) (Nat.le_trans g.len)
inductive Own (h : Hp) (k : Nat) (S : Sr) (h' : Hp) : Prop | mk (F : Nat → Prop) (w : Wit) (R : RS h' k F S w) (g : Gr h h') (fn : ∀ j, F j → h.length ≤ j) (kF : ¬F k) : Own h k S h'
theorem RS.move {h h' : Hp} {k : Nat} {F : Nat → Prop} {S : Sr} {w : Wit} (R : RS h k F S w) (l : h.length ≤ h'.length) (g : ∀ j o, F j ∨ j = k → h[j]? = some o → h'[j]? = some o) : RS h' k F S w :=
 ⟨g _ _ (.inr rfl) R.inst, g _ _ (.inl R.own.1) R.ns, g _ _ (.inl R.own.2.1) R.dict, fun l hl => let z := R.rdy l hl; ⟨g _ _ (.inl z.2.1) z.1, z.2⟩, fun i hi => (R.node i hi).elim fun d e => ⟨d, g _ _ (.inl (R.own.2.2 i hi).1) e⟩, fun i hi => g _ _ (.inl (R.own.2.2 i hi).2) (R.suc i hi), R.sinj, R.nd, R.own, fun j hj => Nat.lt_of_lt_of_le (R.old j hj) l⟩
end Mine
namespace Mine
noncomputable def frees (np : Int → Int) : List Int → List Int
 | [] => []
 | j :: t => (if np j - 1 = 0 then [j] else []) ++ frees (upd np j (np j - 1)) t
theorem frees_sub : ∀ (t : List Int) (np : Int → Int), (frees np t).Sublist t
 | [], _ => .slnil
 | j :: t, np => by
  have ih := frees_sub t (upd np j (np j - 1))
  unfold frees; split
  ·exact ih.cons₂ j
  ·exact ih.cons j
theorem frees_mem : ∀ (t : List Int) (np : Int → Int), (∀ j ∈ t, (t.count j : Int) ≤ np j) → ∀ x, x ∈ frees np t ↔ x ∈ t ∧ np x = t.count x
 | [], _, _, x => by simp [frees]
 | j :: t, np, h, x => by
  have hj := h j (.head _)
  rw [List.count_cons_self] at hj
  have h' : ∀ k ∈ t, (t.count k : Int) ≤ upd np j (np j - 1) k := fun k hk => by
   by_cases e : k = j
   ·subst e; rw [upd_eq]; lia
   ·rw [upd_ne e]; have := h k (.tail _ hk); rw [List.count_cons_of_ne (fun z => e z.symm)] at this; exact this
  have ih := frees_mem t _ h' x
  have e0 : x ∈ frees np (j :: t) ↔ (x = j ∧ np j - 1 = 0) ∨ x ∈ frees (upd np j (np j - 1)) t := by
   show x ∈ (if np j - 1 = 0 then [j] else []) ++ _ ↔ _
   rw [List.mem_append]
   split <;> rename_i c
   ·simp [c]
   ·simp [c]
  rw [e0, ih]
  by_cases e : x = j
  ·subst e
   rw [upd_eq, List.count_cons_self]
   constructor
   ·rintro (⟨_, c⟩ | ⟨c1, c2⟩)
    ·exact ⟨.head _, by lia⟩
    ·exact ⟨.head _, by lia⟩
   ·rintro ⟨_, c⟩
    by_cases z : x ∈ t
    ·exact .inr ⟨z, by lia⟩
    ·have := List.count_eq_zero.mpr z; exact .inl ⟨rfl, by lia⟩
  ·rw [upd_ne e, List.count_cons_of_ne (fun z => e z.symm)]
   constructor
   ·rintro (⟨c, _⟩ | ⟨c1, c2⟩)
    ·exact absurd c e
    ·exact ⟨.tail _ c1, c2⟩
   ·rintro ⟨c1, c2⟩
    exact .inr ⟨List.mem_of_ne_of_mem e c1, c2⟩
theorem frees_nd : ∀ (t : List Int) (np : Int → Int), (∀ j ∈ t, (t.count j : Int) ≤ np j) → (frees np t).Nodup
 | [], _, _ => by simp [frees]
 | j :: t, np, h => by
  have hj := h j (.head _)
  rw [List.count_cons_self] at hj
  have h' : ∀ k ∈ t, (t.count k : Int) ≤ upd np j (np j - 1) k := fun k hk => by
   by_cases e : k = j
   ·subst e; rw [upd_eq]; lia
   ·rw [upd_ne e]; have := h k (.tail _ hk); rw [List.count_cons_of_ne (fun z => e z.symm)] at this; exact this
  have ih := frees_nd t _ h'
  unfold frees; split
  ·rename_i c
   refine List.nodup_cons.mpr ⟨fun z => ?_, ih⟩
   obtain ⟨z1, z2⟩ := (frees_mem t _ h' j).mp z
   rw [upd_eq] at z2
   have := List.count_pos_iff.mpr z1
   lia
  ·exact ih
theorem fold_dec : ∀ (t : List Int) (T : Sr) (r : List Int), T.rd = some r → (t.foldl Sr.dec T).np = (fun j => T.np j - t.count j) ∧ (t.foldl Sr.dec T).rd = some (r ++ frees T.np t)
 | [], T, r, e => ⟨by funext j; simp, by simpa [frees] using e⟩
 | x :: t, T, r, e => by
  have e1 : (T.dec x).rd = some (r ++ if T.np x - 1 = 0 then [x] else []) := by
   show (if T.np x - 1 = 0 then T.rd.map (· ++ [x]) else T.rd) = _
   rw [e]; split <;> simp
  obtain ⟨a, b⟩ := fold_dec t (T.dec x) _ e1
  refine ⟨?_, ?_⟩
  ·rw [List.foldl_cons, a]
   funext j
   show upd T.np x (T.np x - 1) j - _ = _
   by_cases z : j = x
   ·subst z; rw [upd_eq, List.count_cons_self]; lia
   ·rw [upd_ne z, List.count_cons_of_ne (fun w => z w.symm)]
  ·rw [List.foldl_cons, b, List.append_assoc]; rfl
theorem fold_mark : ∀ (l : List Int) (S : Sr) (i : Int), (l.foldl Sr.mark S).np i = if i ∈ l then -1 else S.np i
 | [], S, i => by simp
 | x :: l, S, i => by
  rw [List.foldl_cons, fold_mark l (S.mark x) i]
  by_cases c : i ∈ l
  ·rw [if_pos c, if_pos (.tail _ c)]
  ·rw [if_neg c]
   show upd S.np x (-1) i = _
   by_cases z : i = x
   ·subst z; rw [upd_eq, if_pos (.head _)]
   ·rw [upd_ne z, if_neg (fun w => (List.mem_cons.mp w).elim z c)]
noncomputable def pls (adds : List (Int × List Int)) (i : Int) : List Int := adds.flatMap fun a => if a.1 = i then a.2 else []
theorem pls_count {adds : List (Int × List Int)} {S : Sr} (b : Bt adds S) (p i : Int) : (S.su p).count i = (pls adds i).count p := by
 rw [b.su]; unfold pls
 clear b
 induction adds with
 | nil => rfl
 | cons a adds ih =>
  simp only [List.flatMap_cons, List.count_append, ih]
  congr 1
  by_cases e : a.1 = i
  ·rw [if_pos e, ← e, List.count_replicate_self]
  ·rw [if_neg e, List.count_replicate, if_neg (by simpa using e)]; rfl
theorem pls_np {adds : List (Int × List Int)} {S : Sr} (b : Bt adds S) (i : Int) : S.np i = (pls adds i).length := by
 rw [b.np]; unfold pls
 clear b
 congr 1
 induction adds with
 | nil => rfl
 | cons a adds ih =>
  simp only [List.map_cons, List.sum_cons, List.flatMap_cons, List.length_append, ih]
  split <;> rfl
theorem pls_mem {adds : List (Int × List Int)} {S : Sr} (b : Bt adds S) {p i : Int} : i ∈ S.su p ↔ p ∈ pls adds i := by
 rw [← List.count_pos_iff, pls_count b, List.count_pos_iff]
end Mine
namespace Mine
noncomputable def rest (adds : List (Int × List Int)) (D : List Int) (i : Int) : List Int := (pls adds i).filter fun p => decide (p ∉ D)
structure KI (adds : List (Int × List Int)) (B S : Sr) (H D l : List Int) : Prop where
 ks : S.ks = B.ks
 su : S.su = B.su
 rd : S.rd = some l
 np : ∀ i, S.np i = if i ∈ D then (-2 : Int) else if i ∈ H then -1 else (((rest adds D i).length : Nat) : Int)
 dn : D.Nodup
 hn : H.Nodup
 ln : l.Nodup
 dh : ∀ i ∈ D, i ∈ H
 hk : ∀ i ∈ H, i ∈ B.ks
 lh : ∀ i ∈ l, i ∉ H
 rdy : ∀ i, (i ∈ H ∨ i ∈ l) ↔ i ∈ B.ks ∧ ∀ p ∈ pls adds i, p ∈ D
 pa : S.pa = H.length
 fi : S.fi = D.length
section
variable {adds : List (Int × List Int)} {B S : Sr} {H D l : List Int} (b : Bt adds B)
include b
theorem ki_prep (nd : B.ks.Nodup) : KI adds B B.prep [] [] (B.ks.filter fun i => decide (B.np i = 0)) := by
 refine ⟨rfl, rfl, rfl, fun i => ?_, .nil, .nil, nd.filter _, nofun, nofun, fun _ _ => nofun, fun i => ?_, b.pa, b.fi⟩
 ·show B.np i = _
  rw [pls_np b, if_neg nofun, if_neg nofun]
  unfold rest
  rw [List.filter_eq_self.mpr (fun _ _ => by simp)]
 ·rw [List.mem_filter, pls_np b]
  constructor
  ·rintro (h | ⟨h1, h2⟩)
   ·cases h
   ·have h2 := of_decide_eq_true h2
    have : pls adds i = [] := List.length_eq_zero_iff.mp (by lia)
    exact ⟨h1, by rw [this]; nofun⟩
  ·rintro ⟨h1, h2⟩
   refine .inr ⟨h1, decide_eq_true ?_⟩
   cases z : pls adds i with
   | nil => rfl
   | cons p r => cases h2 p (by rw [z]; exact .head _)
theorem ki_ready (K : KI adds B S H D l) : KI adds B (S.ready l) (H ++ l) D [] := by
 obtain ⟨m1, m2, m3, m4, m5⟩ := mark_same l S
 refine ⟨m1.trans K.ks, m2.trans K.su, rfl, fun i => ?_, K.dn, List.nodup_append.mpr ⟨K.hn, K.ln, fun a ha c hc z => K.lh c hc (z ▸ ha)⟩, .nil, fun i hi => List.mem_append_left _ (K.dh i hi), fun i hi => ?_, nofun, fun i => ?_, ?_, m5.trans K.fi⟩
 ·show (l.foldl Sr.mark S).np i = _
  rw [fold_mark, K.np]
  by_cases c : i ∈ l
  ·rw [if_pos c, if_neg (fun z => K.lh i c (K.dh i z)), if_pos (List.mem_append_right _ c)]
  ·rw [if_neg c]
   by_cases d : i ∈ D
   ·rw [if_pos d, if_pos d]
   ·rw [if_neg d, if_neg d]
    by_cases e : i ∈ H
    ·rw [if_pos e, if_pos (List.mem_append_left _ e)]
    ·rw [if_neg e, if_neg (fun z => (List.mem_append.mp z).elim e c)]
 ·exact ((K.rdy i).mp (List.mem_append.mp hi)).1
 ·rw [← K.rdy, List.mem_append]; simp
 ·show S.pa + _ = _
  rw [K.pa, List.length_append]; simp
theorem rest_snoc {D : List Int} {x i : Int} (hx : x ∉ D) : (rest adds D i).length = (rest adds (D ++ [x]) i).length + (pls adds i).count x := by
 unfold rest
 induction pls adds i with
 | nil => rfl
 | cons p t ih =>
  simp only [List.filter_cons, List.count_cons]
  by_cases c : p ∈ D
  ·have : p ≠ x := fun z => hx (z ▸ c)
   simp [c, this]; simpa using ih
  ·by_cases e : p = x
   ·subst e; simp [c]; have := ih; simp at this; lia
   ·simp [c, e]; have := ih; simp at this; lia
theorem ki_done {x : Int} (K : KI adds B S H D l) (hx : x ∈ H) (hd : x ∉ D) (lb : l.length + (B.su x).length ≤ 50000) :
  DoneOk S [x] ∧ ∃ fr : List Int, KI adds B (S.done1 x) H (D ++ [x]) (l ++ fr) ∧ fr.Sublist (B.su x) ∧ fr.Nodup ∧ ∀ i, i ∈ fr ↔ x ∈ pls adds i ∧ ∀ p ∈ pls adds i, p ∈ D ++ [x] := by
 have nx : ∀ i, x ∈ pls adds i → i ∉ H ∧ i ∉ l := fun i hi => by
  have : ¬(i ∈ H ∨ i ∈ l) := fun z => hd (((K.rdy i).mp z).2 x hi)
  exact ⟨fun z => this (.inl z), fun z => this (.inr z)⟩
 have xx : x ∉ B.su x := fun z => (nx x ((pls_mem b).mp z)).1 hx
 have ksu : ∀ j ∈ B.su x, j ∈ B.ks := fun j hj => by
  obtain ⟨a, ha, z1, z2⟩ := b.mems.mp hj
  exact b.memk.mpr ⟨a, ha, .inl z1⟩
 have npx : S.np x = -1 := by rw [K.np, if_neg hd, if_pos hx]
 refine ⟨⟨by rw [K.ks]; exact K.hk x hx, npx, fun j hj => by rw [K.su] at hj; rw [K.ks]; exact ksu j hj, ⟨l, K.rd, by rw [K.su]; exact lb⟩, trivial⟩, ?_⟩
 generalize hT : ({ S with np := upd S.np x (-2) } : Sr) = T
 have Trd : T.rd = some l := by rw [← hT]; exact K.rd
 have Tnp : T.np = upd S.np x (-2) := by rw [← hT]
 have ed : S.done1 x = { (S.su x).foldl Sr.dec T with fi := S.fi + 1 } := by unfold Sr.done1; rw [hT]
 obtain ⟨f1, f2⟩ := fold_dec (S.su x) T l Trd
 obtain ⟨s1, s2, s3, s4, _⟩ := dec_same (S.su x) T l Trd
 rw [K.su] at ed f1 f2 s1 s2 s3 s4
 have npj : ∀ j ∈ B.su x, T.np j = ((rest adds D j).length : Nat) := fun j hj => by
  have hj' := (pls_mem b).mp hj
  rw [Tnp, upd_ne (show j ≠ x from fun z => xx (z ▸ hj)), K.np, if_neg (fun z => (nx j hj').1 (K.dh j z)), if_neg (nx j hj').1]
 have cnt : ∀ j, ((B.su x).count j : Int) = (rest adds D j).length - (rest adds (D ++ [x]) j).length := fun j => by
  have := rest_snoc (adds := adds) b (D := D) (x := x) (i := j) hd
  rw [pls_count b]; lia
 have hle : ∀ j ∈ B.su x, ((B.su x).count j : Int) ≤ T.np j := fun j hj => by rw [npj j hj, cnt]; lia
 have fm : ∀ i, i ∈ frees T.np (B.su x) ↔ x ∈ pls adds i ∧ ∀ p ∈ pls adds i, p ∈ D ++ [x] := fun i => by
  rw [frees_mem _ _ hle, pls_mem b]
  refine and_congr_right fun hi => ?_
  rw [npj i ((pls_mem b).mpr hi), cnt]
  have : (rest adds (D ++ [x]) i).length = 0 ↔ ∀ p ∈ pls adds i, p ∈ D ++ [x] := by
   rw [List.length_eq_zero_iff]; unfold rest; rw [List.filter_eq_nil_iff]
   exact ⟨fun z p hp => Classical.byContradiction fun y => z p hp (decide_eq_true y), fun z p hp y => of_decide_eq_true y (z p hp)⟩
  rw [← this]; lia
 refine ⟨frees T.np (B.su x), ?_, frees_sub _ _, frees_nd _ _ hle, fm⟩
 rw [ed]
 refine ⟨s1.trans (by rw [← hT]; exact K.ks), s2.trans (by rw [← hT]; exact K.su), f2, fun i => ?_, ?_, K.hn, ?_, fun i hi => ?_, K.hk, fun i hi => ?_, fun i => ?_, s3.trans (by rw [← hT]; exact K.pa), ?_⟩
 ·show ((B.su x).foldl Sr.dec T).np i = _
  rw [f1, Tnp]
  show upd S.np x (-2) i - _ = _
  by_cases e : i = x
  ·subst e
   rw [upd_eq, List.count_eq_zero.mpr xx, if_pos (by simp)]; rfl
  ·rw [upd_ne e, K.np]
   have nD : i ∉ D → i ∉ D ++ [x] := fun d z => (List.mem_append.mp z).elim d fun z => e (List.mem_singleton.mp z)
   by_cases c : i ∈ B.su x
   ·have c' := nx i ((pls_mem b).mp c)
    rw [if_neg (fun z => c'.1 (K.dh i z)), if_neg c'.1, if_neg (nD fun z => c'.1 (K.dh i z)), if_neg c'.1, cnt]; lia
   ·rw [List.count_eq_zero.mpr c]
    have h0 := cnt i
    rw [List.count_eq_zero.mpr c] at h0
    by_cases d : i ∈ D
    ·rw [if_pos d, if_pos (List.mem_append_left _ d)]; rfl
    ·rw [if_neg d, if_neg (nD d)]
     by_cases g : i ∈ H
     ·rw [if_pos g, if_pos g]; rfl
     ·rw [if_neg g, if_neg g]; lia
 ·exact List.nodup_append.mpr ⟨K.dn, by simp, fun a ha c hc z => hd (by rw [← List.mem_singleton.mp hc, ← z]; exact ha)⟩
 ·exact List.nodup_append.mpr ⟨K.ln, frees_nd _ _ hle, fun a ha c hc z => (nx c ((fm c).mp hc).1).2 (z ▸ ha)⟩
 ·rcases List.mem_append.mp hi with z | z
  ·exact K.dh i z
  ·rw [List.mem_singleton.mp z]; exact hx
 ·rcases List.mem_append.mp hi with z | z
  ·exact K.lh i z
  ·exact (nx i ((fm i).mp z).1).1
 ·rw [List.mem_append, fm]
  constructor
  ·rintro (h | h | h)
   ·have := (K.rdy i).mp (.inl h); exact ⟨this.1, fun p hp => List.mem_append_left _ (this.2 p hp)⟩
   ·have := (K.rdy i).mp (.inr h); exact ⟨this.1, fun p hp => List.mem_append_left _ (this.2 p hp)⟩
   ·exact ⟨ksu i ((pls_mem b).mpr h.1), h.2⟩
  ·rintro ⟨h1, h2⟩
   by_cases c : x ∈ pls adds i
   ·exact .inr (.inr ⟨c, h2⟩)
   ·have : i ∈ H ∨ i ∈ l := (K.rdy i).mpr ⟨h1, fun p hp => by
     rcases List.mem_append.mp (h2 p hp) with z | z
     ·exact z
     ·rw [List.mem_singleton.mp z] at hp; exact absurd hp c⟩
    rcases this with z | z
    ·exact .inl z
    ·exact .inr (.inl z)
 ·show S.fi + 1 = _
  rw [K.fi, List.length_append]; simp
end
end Mine
namespace Mine
section
variable {adds : List (Int × List Int)} {B : Sr} (b : Bt adds B) (hs : ∀ x, (B.su x).length ≤ 40000) (hk : B.ks.length ≤ 200)
include b hs hk
theorem KI.ll {S : Sr} {H D l : List Int} (K : KI adds B S H D l) : l.length ≤ 200 ∧ ∀ y ∈ l, y ∈ S.ks := by
 have : ∀ y ∈ l, y ∈ B.ks := fun y hy => ((K.rdy y).mp (.inr hy)).1
 exact ⟨Nat.le_trans (nodup_len K.ln this) hk, fun y hy => by rw [K.ks]; exact this y hy⟩
theorem ki_dones : ∀ (xs : List Int) {S : Sr} {H D l : List Int}, KI adds B S H D l → (∀ x ∈ xs, x ∈ H ∧ x ∉ D) → xs.Nodup → DoneOk S xs ∧ ∃ l', KI adds B (xs.foldl Sr.done1 S) H (D ++ xs) l'
 | [], S, H, D, l, K, _, _ => ⟨trivial, l, by simpa using K⟩
 | x :: xs, S, H, D, l, K, hx, nd => by
  have nd' := List.nodup_cons.mp nd
  obtain ⟨x1, x2⟩ := hx x (.head _)
  have ll := KI.ll b hs hk K
  have := hs x
  obtain ⟨⟨d1, d2, d3, d4, _⟩, fr, K', _⟩ := ki_done b K x1 x2 (by lia)
  obtain ⟨e1, l', e2⟩ := ki_dones xs K' (fun y hy => ⟨(hx y (.tail _ hy)).1, fun z => (List.mem_append.mp z).elim (hx y (.tail _ hy)).2 fun z => nd'.1 (List.mem_singleton.mp z ▸ hy)⟩) nd'.2
  refine ⟨⟨d1, d2, d3, d4, e1⟩, l', ?_⟩
  rw [List.append_assoc] at e2; exact e2
end
end Mine
namespace Mine
theorem pw_eq {α : Type} {r : α → α → Prop} (irr : ∀ a b, r a b → ¬r b a) : ∀ {l1 l2 : List α}, l1.Pairwise r → l2.Pairwise r → (∀ x, x ∈ l1 ↔ x ∈ l2) → l1 = l2
 | [], [], _, _, _ => rfl
 | [], b :: s, _, _, m => by cases (m b).mpr (.head _)
 | a :: t, [], _, _, m => by cases (m a).mp (.head _)
 | a :: t, b :: s, p1, p2, m => by
  have q1 := List.pairwise_cons.mp p1
  have q2 := List.pairwise_cons.mp p2
  have e : a = b := by
   rcases List.mem_cons.mp ((m a).mp (.head _)) with z | z
   ·exact z
   rcases List.mem_cons.mp ((m b).mpr (.head _)) with y | y
   ·exact y.symm
   ·exact absurd (q1.1 b y) (irr _ _ (q2.1 a z))
  subst e
  rw [pw_eq irr q1.2 q2.2 fun x => ?_]
  constructor
  ·intro hx
   rcases List.mem_cons.mp ((m x).mp (.tail _ hx)) with z | z
   ·subst z; exact absurd (q1.1 x hx) (irr _ _ (q1.1 x hx))
   ·exact z
  ·intro hx
   rcases List.mem_cons.mp ((m x).mpr (.tail _ hx)) with z | z
   ·subst z; exact absurd (q2.1 x hx) (irr _ _ (q2.1 x hx))
   ·exact z
section
variable {α : Type}
theorem insS_le (k : Int) (v : α) : ∀ l : List (Int × α), l.Pairwise (fun p q => p.1 ≤ q.1) → (insS k v l).Pairwise fun p q => p.1 ≤ q.1
 | [], _ => by simp [insS]
 | (k', v') :: r, h => by
  have h' := List.pairwise_cons.mp h
  unfold insS; split
  ·rename_i l
   refine List.pairwise_cons.mpr ⟨fun q hq => ?_, h⟩
   rcases List.mem_cons.mp hq with z | z
   ·rw [z]; show k ≤ k'; exact Int.le_of_lt l
   ·have := h'.1 q z; show k ≤ q.1; have : k' ≤ q.1 := this; lia
  ·rename_i l
   refine List.pairwise_cons.mpr ⟨fun q hq => ?_, insS_le k v r h'.2⟩
   rcases List.mem_cons.mp ((insS_perm k v r).mem_iff.mp hq) with z | z
   ·rw [z]; show k' ≤ k; exact Int.le_of_not_gt l
   ·exact h'.1 q z
theorem sortS_le (l : List (Int × α)) : (sortS l).Pairwise fun p q => p.1 ≤ q.1 := by
 have : ∀ acc, acc.Pairwise (fun p q : Int × α => p.1 ≤ q.1) → (l.foldl (fun acc p => insS p.1 p.2 acc) acc).Pairwise fun p q => p.1 ≤ q.1 := by
  induction l with
  | nil => exact fun acc h => h
  | cons p l ih => exact fun acc h => ih _ (insS_le _ _ _ h)
 exact this [] .nil
end
noncomputable abbrev lt2 (p q : Int × Int) : Prop := p.1 < q.1 ∨ p.1 = q.1 ∧ p.2 < q.2
theorem insS_lt2 (k v : Int) : ∀ l : List (Int × Int), l.Pairwise lt2 → (∀ q ∈ l, q.2 < v) → (insS k v l).Pairwise lt2
 | [], _, _ => by simp [insS]
 | (k', v') :: r, h, hv => by
  have h' := List.pairwise_cons.mp h
  unfold insS; split
  ·rename_i l
   refine List.pairwise_cons.mpr ⟨fun q hq => ?_, h⟩
   rcases List.mem_cons.mp hq with z | z
   ·rw [z]; exact .inl l
   ·rcases h'.1 q z with y | y
    ·exact .inl (by show k < q.1; have : k' < q.1 := y; lia)
    ·exact .inl (by show k < q.1; have : k' = q.1 := y.1; lia)
  ·rename_i l
   refine List.pairwise_cons.mpr ⟨fun q hq => ?_, insS_lt2 k v r h'.2 fun q hq => hv q (.tail _ hq)⟩
   rcases List.mem_cons.mp ((insS_perm k v r).mem_iff.mp hq) with z | z
   ·rw [z]
    have : v' < v := hv (k', v') (.head _)
    show k' < k ∨ k' = k ∧ v' < v
    lia
   ·exact h'.1 q z
theorem sortS_lt2 (l : List (Int × Int)) (h : l.Pairwise fun p q => p.2 < q.2) : (sortS l).Pairwise lt2 := by
 have : ∀ (l acc : List (Int × Int)), (l.Pairwise fun p q => p.2 < q.2) → acc.Pairwise lt2 → (∀ q ∈ acc, ∀ p ∈ l, q.2 < p.2) → (l.foldl (fun acc p => insS p.1 p.2 acc) acc).Pairwise lt2 := by
  intro l
  induction l with
  | nil => exact fun acc _ h _ => h
  | cons p l ih =>
   intro acc hl h hq
   have hl' := List.pairwise_cons.mp hl
   refine ih _ hl'.2 (insS_lt2 _ _ _ h fun q z => hq q z p (.head _)) fun q z x hx => ?_
   rcases List.mem_cons.mp ((insS_perm p.1 p.2 acc).mem_iff.mp z) with y | y
   ·rw [y]; exact hl'.1 x hx
   ·exact hq q y x (.tail _ hx)
 exact this l [] h .nil nofun
end Mine
namespace Mine
noncomputable abbrev ltf (f : Int → Int) (a b : Int) : Prop := f a < f b ∨ f a = f b ∧ a < b
theorem ltf_irr (f : Int → Int) : ∀ a b, ltf f a b → ¬ltf f b a := fun a b h h' => by unfold ltf at *; lia
structure Row (f : Int → Int) (i : Int) (row : List Int) : Prop where
 pw : row.Pairwise (ltf f)
 mem : ∀ x, x ∈ row ↔ 0 ≤ x ∧ x < i
structure Pre (f : Int → Int) (i : Int) (d : List Int) : Prop where
 pw : d.Pairwise (ltf f)
 mem : ∀ x, x ∈ d ↔ 0 ≤ x ∧ x < i ∧ f x < f i
theorem Pre.uniq {f : Int → Int} {i : Int} {d d' : List Int} (a : Pre f i d) (b : Pre f i d') : d = d' := pw_eq (ltf_irr f) a.pw b.pw fun x => (a.mem x).trans (b.mem x).symm
theorem mem_take_at {row : List Int} {rt : Int → Bool} {r : Nat} (a : At (fun k => rt (row.getD k 0)) 0 row.length r) (x : Int) : x ∈ row.take r ↔ x ∈ row ∧ rt x = true := by
 constructor
 ·intro h
  obtain ⟨k, hk, e⟩ := List.mem_iff_getElem.mp h
  simp at hk
  have hk1 : k < r := by exact Z7 hk (Nat.min_le_left r (List.length row))
  have hk2 : k < row.length := by exact Z7 hk (Nat.min_le_right r (List.length row))
  rw [List.getElem_take] at e
  refine ⟨e ▸ List.getElem_mem _, ?_⟩
  have := a.left k (Nat.zero_le _) hk1
  rw [List.getD_eq_getElem?_getD, List.getElem?_eq_getElem hk2] at this
  rw [← e]; exact this
 ·rintro ⟨h, hr⟩
  obtain ⟨k, hk, e⟩ := List.mem_iff_getElem.mp h
  by_cases c : k < r
  ·exact List.mem_iff_getElem.mpr ⟨k, by simp; lia, by rw [List.getElem_take]; exact e⟩
  ·have := a.right k (by exact Z3 c) hk
   rw [List.getD_eq_getElem?_getD, List.getElem?_eq_getElem hk] at this
   simp only [Option.getD_some] at this
   rw [e, hr] at this; cases this
theorem mem_drop_at {row : List Int} {rt : Int → Bool} {r : Nat} (a : At (fun k => rt (row.getD k 0)) 0 row.length r) (x : Int) (h : x ∈ row.drop r) : x ∈ row ∧ rt x = false := by
 obtain ⟨k, hk, e⟩ := List.mem_iff_getElem.mp h
 simp at hk
 rw [List.getElem_drop] at e
 refine ⟨e ▸ List.getElem_mem _, ?_⟩
 have := a.right (r + k) (by exact Nat.le_add_right r k) (by exact Z44 hk)
 rw [List.getD_eq_getElem?_getD, List.getElem?_eq_getElem (by exact Z44 hk)] at this
 rw [← e]; exact this
theorem row_take {f : Int → Int} {i : Int} {row : List Int} {r : Nat} (R : Row f i row) (a : At (fun k => decide (f (row.getD k 0) < f i)) 0 row.length r) : Pre f i (row.take r) :=
 ⟨R.pw.sublist (List.take_sublist r row), fun x => by rw [mem_take_at (rt := fun x => decide (f x < f i)) a, R.mem]; simp [and_assoc]⟩
theorem row_ins {f : Int → Int} {i : Int} {row : List Int} {r : Nat} (hi : 0 ≤ i) (R : Row f i row) (a : At (fun k => decide (f (row.getD k 0) ≤ f i)) 0 row.length r) : Row f (i + 1) (row.take r ++ i :: row.drop r) := by
 have mt := mem_take_at (rt := fun x => decide (f x ≤ f i)) a
 have md := mem_drop_at (rt := fun x => decide (f x ≤ f i)) a
 refine ⟨?_, fun x => ?_⟩
 ·have pw := R.pw
  rw [← List.take_append_drop r row] at pw
  obtain ⟨p1, p2, p3⟩ := List.pairwise_append.mp pw
  refine List.pairwise_append.mpr ⟨p1, List.pairwise_cons.mpr ⟨fun b hb => ?_, p2⟩, fun x hx b hb => ?_⟩
  ·have := of_decide_eq_false (md b hb).2; left; exact Int.lt_of_not_ge this
  ·rcases List.mem_cons.mp hb with z | z
   ·subst z
    have h1 := of_decide_eq_true ((mt x).mp hx).2
    have h2 := (R.mem x).mp ((mt x).mp hx).1
    show f x < f b ∨ f x = f b ∧ x < b
    lia
   ·exact p3 x hx b z
 ·rw [List.mem_append, List.mem_cons]
  have : x ∈ row ↔ x ∈ row.take r ∨ x ∈ row.drop r := by rw [← List.mem_append, List.take_append_drop]
  have hm := R.mem x
  constructor
  ·rintro (h | h | h)
   ·have := hm.mp (this.mpr (.inl h)); lia
   ·lia
   ·have := hm.mp (this.mpr (.inr h)); lia
  ·intro h
   by_cases c : x = i
   ·exact .inr (.inl c)
   ·rcases this.mp (hm.mpr (by lia)) with z | z
    ·exact .inl z
    ·exact .inr (.inr z)
theorem pre_sort {f : Int → Int} {i : Int} {l : List Int} (hl : l.Pairwise (· < ·)) (hm : ∀ x, x ∈ l ↔ 0 ≤ x ∧ x < i ∧ f x < f i) : Pre f i ((sortS ((l.map f).zip l)).map (·.2)) := by
 have ez : (l.map f).zip l = l.map fun x => (f x, x) := by
  clear hl hm
  induction l with
  | nil => rfl
  | cons a l ih => simp [ih]
 rw [ez]
 have hp : ∀ p ∈ sortS (l.map fun x => (f x, x)), p.1 = f p.2 ∧ p.2 ∈ l := fun p hp => by
  obtain ⟨x, hx, e⟩ := List.mem_map.mp ((sortS_perm _).mem_iff.mp hp)
  rw [← e]; exact ⟨rfl, hx⟩
 refine ⟨?_, fun x => ?_⟩
 ·rw [List.pairwise_map]
  have := sortS_lt2 (l.map fun x => (f x, x)) (by rw [List.pairwise_map]; exact hl)
  refine List.Pairwise.imp_of_mem (fun {a b} ha hb h => ?_) this
  have e1 := (hp a ha).1
  have e2 := (hp b hb).1
  unfold lt2 at h
  rw [e1, e2] at h
  exact h
 ·rw [← hm]
  constructor
  ·intro h
   obtain ⟨p, h1, h2⟩ := List.mem_map.mp h
   rw [← h2]; exact (hp p h1).2
  ·intro h
   exact List.mem_map.mpr ⟨(f x, x), (sortS_perm _).mem_iff.mpr (List.mem_map.mpr ⟨x, h, rfl⟩), rfl⟩
end Mine
namespace Mine
noncomputable abbrev gn (l : List Int) (i : Nat) : Int := l.getD i 0
theorem gn_app {l r : List Int} {i : Nat} (h : i < l.length) : gn (l ++ r) i = gn l i := by
 unfold gn
 rw [List.getD_eq_getElem?_getD, List.getD_eq_getElem?_getD, List.getElem?_append_left h]
theorem gn_last {l : List Int} {x : Int} : gn (l ++ [x]) l.length = x := by
 unfold gn
 rw [List.getD_eq_getElem?_getD, List.getElem?_concat_length]; rfl
theorem gn_get {l : List Int} {i : Nat} (h : i < l.length) : l[i]? = some (gn l i) := by
 unfold gn
 rw [List.getD_eq_getElem?_getD, List.getElem?_eq_getElem h]; rfl
theorem gn_ext {l m : List Int} (h : l.length = m.length) (e : ∀ i, i < l.length → gn l i = gn m i) : l = m := by
 refine List.ext_getElem? fun i => ?_
 by_cases c : i < l.length
 ·rw [gn_get c, gn_get (h ▸ c), e i c]
 ·rw [List.getElem?_eq_none (Nat.le_of_not_lt c), List.getElem?_eq_none (h ▸ Nat.le_of_not_lt c)]
theorem range_split {n : Nat} {ds rs : List Nat} {x : Nat} (e : List.range n = ds ++ x :: rs) : x = ds.length ∧ ds.length < n := by
 have h1 := congrArg List.length e
 rw [List.length_range, List.length_append, List.length_cons] at h1
 have h2 : (List.range n)[ds.length]? = some x := by rw [e, List.getElem?_append_right (Nat.le_refl _), Nat.sub_self]; rfl
 have l : ds.length < n := by lia
 rw [List.getElem?_range l] at h2
 exact ⟨(Option.some.inj h2).symm, l⟩
theorem gIx {h : Hp} {k i : Nat} {xs : List Int} {Q : AV → Prop} (e : h[k]? = some (.list (xs.map .int))) (l : i < xs.length) (q : Q (.int (gn xs i))) : getIdx h Q (.ref k) (.int i) :=
 gIdx (lst_l e) (Int.natCast_nonneg i) (Int.ofNat_lt.mpr l) q
theorem app_at {h : Hp} {o : AObj} : (h ++ [o])[h.length]? = some o := List.getElem?_concat_length
theorem app_n {h t : Hp} (m : Nat) : (h ++ t)[h.length + m]? = t[m]? := by rw [List.getElem?_append_right (Nat.le_add_right _ _), Nat.add_sub_cancel_left]
theorem rangeL0 (n : Nat) : rangeL 0 (n : Int) = (List.range n).map fun i : Nat => .one (.int (i : Int)) := by
 unfold rangeL
 rw [show ((n : Int) - 0).toNat = n by lia]
 exact List.map_congr_left fun i _ => by rw [Int.zero_add]
theorem cast_small {n m : Nat} (h : n ≤ m) (k : Nat.ble m 100000 = true) : -100000 ≤ (n : Int) ∧ (n : Int) ≤ 100000 := ⟨by lia, by have := Nat.le_of_ble_eq_true k; lia⟩
inductive Nx (row gaps : List Int) (i : Nat) (t : Int) : Prop
 | mk (m : Nat) (e : t = m) (l0 : i + 1 ≤ m) (l1 : m ≤ row.length) (left : ∀ k, i + 1 ≤ k → k < m → gn row k < gn row i + gn gaps i) (right : m < row.length → gn row i + gn gaps i ≤ gn row m) : Nx row gaps i t
theorem Nx.uniq {row gaps : List Int} {i : Nat} {t t' : Int} (a : Nx row gaps i t) (b : Nx row gaps i t') : t = t' := by
 obtain ⟨m, e, l0, l1, lf, rt⟩ := a
 obtain ⟨m', e', l0', l1', lf', rt'⟩ := b
 rcases Nat.lt_trichotomy m m' with c | c | c
 ·exact absurd (lf' m l0 c) (Int.not_lt.mpr (rt (Nat.lt_of_lt_of_le c l1')))
 ·rw [e, e', c]
 ·exact absurd (lf m' l0' c) (Int.not_lt.mpr (rt' (Nat.lt_of_lt_of_le c l1)))
theorem nx_min {row gaps : List Int} {i : Nat} {m : Int} (hi : i < row.length) (hm : m ∈ (((List.range (row.length - (i + 1))).filter fun j => decide (gn row i + gn gaps i ≤ gn row (i + 1 + j))).map fun j : Nat => ((i + 1 + j : Nat) : Int)) ++ [(row.length : Int)])
  (hx : ∀ x ∈ (((List.range (row.length - (i + 1))).filter fun j => decide (gn row i + gn gaps i ≤ gn row (i + 1 + j))).map fun j : Nat => ((i + 1 + j : Nat) : Int)) ++ [(row.length : Int)], m ≤ x) : Nx row gaps i m := by
 have far : ∀ k, i + 1 ≤ k → k < row.length → gn row i + gn gaps i ≤ gn row k → m ≤ k := fun k a b c => by
  refine hx k (List.mem_append_left _ (List.mem_map.mpr ⟨k - (i + 1), List.mem_filter.mpr ⟨List.mem_range.mpr (by lia), decide_eq_true ?_⟩, by congr 1; lia⟩))
  rw [show i + 1 + (k - (i + 1)) = k by lia]; exact c
 rcases List.mem_append.mp hm with z | z
 ·obtain ⟨j, hj, e⟩ := List.mem_map.mp z
  obtain ⟨a, c⟩ := List.mem_filter.mp hj
  have a := List.mem_range.mp a
  refine ⟨i + 1 + j, e.symm, Nat.le_add_right _ _, by lia, fun k l0 l1 => Int.not_le.mp fun z => ?_, fun _ => of_decide_eq_true c⟩
  have := far k l0 (by lia) z
  lia
 ·refine ⟨row.length, List.mem_singleton.mp z, hi, Nat.le_refl _, fun k l0 l1 => Int.not_le.mp fun y => ?_, fun z => absurd z (Nat.lt_irrefl _)⟩
  have := far k l0 l1 y
  rw [List.mem_singleton.mp z] at this; lia
section
variable {n : Nat} {h : Hp} {Q : AV → Hp → Prop}
noncomputable def fr14 (h : Hp) (kr kg : Nat) : Fm := (enterF g06_14 [] [(64, .ref kr), (76, .ref kg)] h).1
inductive NxJ (h : Hp) (kr kg : Nat) (row gaps : List Int) (ds : List Nat) (fr : Fm) (h' : Hp) : Prop
 | mk (T : List Int) (v : Option AV) (f77 : fr.loc 77 = some (.ref (h.length + 3))) (fc : fr.cel = (fr14 h kr kg).cel) (g : Gr h h') (e64 : h'[h.length]? = some (.cell (some (.ref kr)))) (e76 : h'[h.length + 1]? = some (.cell (some (.ref kg)))) (e24 : h'[h.length + 2]? = some (.cell v)) (eT : h'[h.length + 3]? = some (.list (T.map .int))) (len : T.length = ds.length) (nx : ∀ i, i < ds.length → Nx row gaps i (gn T i)) : NxJ h kr kg row gaps ds fr h'
theorem next_spec {kr kg : Nat} {row gaps : List Int} (er : h[kr]? = some (.list (row.map .int))) (eg : h[kg]? = some (.list (gaps.map .int))) (hl : row.length ≤ 1000) (hg : row.length ≤ gaps.length)
  (q : ∀ h' r T, Gr h h' → h'[r]? = some (.list (T.map .int)) → h.length ≤ r → T.length = row.length → (∀ i, i < row.length → Nx row gaps i (gn T i)) → Q (.ref r) h') : (go (n + 14)).cl (.fn 14) [.ref kr, .ref kg] [] h Q := by
 refine cFn (f := g06_14) (b := [(64, .ref kr), (76, .ref kg)]) (h1 := h) rfl rfl rfl ?_
 show exStep (go (n + 12)) g06_14.body (fr14 h kr kg) (h ++ [.cell (some (.ref kr)), .cell (some (.ref kg)), .cell none]) _
 have l3 : (h ++ [AObj.cell (some (.ref kr)), .cell (some (.ref kg)), .cell none]).length = h.length + 3 := List.length_append
 have c64 : (fr14 h kr kg).cel 64 = some h.length := rfl
 have c76 : (fr14 h kr kg).cel 76 = some (h.length + 1) := rfl
 have c24 : (fr14 h kr kg).cel 24 = some (h.length + 2) := rfl
 refine xAsg (eList (vNil ?_))
 rw [l3]
 have g1 : Gr h (h ++ [.cell (some (.ref kr)), .cell (some (.ref kg)), .cell none] ++ [.list []]) := Kp.refl.more.more
 have o0 : (h ++ [AObj.cell (some (.ref kr)), .cell (some (.ref kg)), .cell none] ++ [.list []])[h.length]? = some (.cell (some (.ref kr))) := get_app (app_n 0)
 have o1 : (h ++ [AObj.cell (some (.ref kr)), .cell (some (.ref kg)), .cell none] ++ [.list []])[h.length + 1]? = some (.cell (some (.ref kg))) := get_app (app_n 1)
 have o2 : (h ++ [AObj.cell (some (.ref kr)), .cell (some (.ref kg)), .cell none] ++ [.list []])[h.length + 2]? = some (.cell none) := get_app (app_n 2)
 have o3 : (h ++ [AObj.cell (some (.ref kr)), .cell (some (.ref kg)), .cell none] ++ [.list []])[h.length + 3]? = some (.list (([] : List Int).map .int)) := l3 ▸ app_at
 refine xFor (src_r1 (ePrim (vCons (eCel c64 o0 (vNil (.len _ (seq_l (g1.get er)) ⟨_, rfl, by rw [List.length_map]; exact cast_small hl rfl, ?_⟩))))))
 rw [List.length_map]
 refine fkD (fun i : Nat => .one (.int (i : Int))) (List.range row.length) (NxJ h kr kg row gaps) (rangeL0 _) ⟨[], none, rfl, rfl, g1, o0, o1, o2, o3, rfl, nofun⟩ (fun _ _ _ _ => trivial) (fun ds i rs fr h' e j => ?_) fun fr h' j => NxJ.casesOn j fun T v f77 fc g e64 e76 e24 eT len nx => xRet (eLoc f77 (q h' _ T g eT (Nat.le_add_right _ _) (len.trans List.length_range) fun i l => nx i (List.length_range.symm ▸ l)))
 obtain ⟨ei, li⟩ := range_split e
 subst ei
 refine NxJ.casesOn j fun T v f77 fc g e64 e76 e24 eT len nx => .mk (.mk ((congrFun fc 24).trans c24) e24 ?_)
 have g2 : Gr h (h'.set (h.length + 2) (.cell (some (.int (ds.length : Int))))) := g.fresh (Nat.le_add_right _ 2)
 have p64 : (h'.set (h.length + 2) (.cell (some (.int (ds.length : Int)))))[h.length]? = _ := get_set e64 (Z23 1)
 have p76 : (h'.set (h.length + 2) (.cell (some (.int (ds.length : Int)))))[h.length + 1]? = _ := get_set e76 (Z25 (Nat.lt_succ_self _))
 have p24 : (h'.set (h.length + 2) (.cell (some (.int (ds.length : Int)))))[h.length + 2]? = _ := get_self e24
 have pT : (h'.set (h.length + 2) (.cell (some (.int (ds.length : Int)))))[h.length + 3]? = _ := get_set eT (Z24 (Nat.lt_succ_self _))
 generalize h'.set (h.length + 2) (.cell (some (.int (ds.length : Int)))) = h2 at *
 have r2 := g2.get er
 have k2 := g2.get eg
 have f64 := (congrFun fc 64).trans c64
 have f76 := (congrFun fc 76).trans c76
 have f24 := (congrFun fc 24).trans c24
 refine xAsg (eComp (src_r2 (eBin (eCel f24 p24 (eInt (oAdd (ePrim (vCons (eCel f64 p64 (vNil (.len _ (seq_l r2) ⟨_, _, rfl, rfl, cast_small (n := ds.length + 1) (Nat.le_trans li hl) rfl, by rw [List.length_map]; exact cast_small hl rfl, ?_⟩)))))))))))
 rw [List.length_map]
 refine ckP (n := n + 10) (fun j : Nat => .one (.int ((ds.length + 1 + j : Nat) : Int))) (List.range (row.length - (ds.length + 1))) (fun j => decide (gn row ds.length + gn gaps ds.length ≤ gn row (ds.length + 1 + j))) (fun j => .int ((ds.length + 1 + j : Nat) : Int)) ?_ trivial (by rw [List.length_range]; lia) (fun j hj fr' ef => ?_) ?_
 ·show (List.range ((row.length : Int) - ((ds.length : Int) + 1)).toNat).map _ = _
  rw [show ((row.length : Int) - ((ds.length : Int) + 1)).toNat = row.length - (ds.length + 1) by lia]; rfl
 ·have hj := List.mem_range.mp hj
  have ce : ∀ {x k : Nat}, fr.cel x = some k → [76, 24, 64].contains x = true → (fr'.set 59 (.int ((ds.length + 1 + j : Nat) : Int))).cel x = some k := fun {x k} z y => by
   show fr'.cel x = _
   rw [ef]
   show Option.or none (if [76, 24, 64].contains x then fr.cel x else none) = _
   rw [y, z]; rfl
  refine .mk ⟨rfl, rfl, eCmp (eIdx (eCel (ce f64 rfl) p64 (eLoc rfl (gIx r2 (by lia) (eBin (eIdx (eCel (ce f64 rfl) p64 (eCel (ce f24 rfl) p24 (gIx r2 li (eIdx (eCel (ce f76 rfl) p76 (eCel (ce f24 rfl) p24 (gIx k2 (Nat.lt_of_lt_of_le li hg) (oAdd (cGe ⟨_, rfl, ?_⟩))))))))))))))), fun _ => eLoc rfl ⟨rfl, rfl⟩⟩
  cases decide (gn row ds.length + gn gaps ds.length ≤ gn row (ds.length + 1 + j)) <;> exact ⟨rfl, rfl⟩
 ·have nm := fun m => nx_min (m := m) (gaps := gaps) li
  have hV : ((List.range (row.length - (ds.length + 1))).filter fun j => decide (gn row ds.length + gn gaps ds.length ≤ gn row (ds.length + 1 + j))).map (fun j : Nat => AV.int ((ds.length + 1 + j : Nat) : Int)) = (((List.range (row.length - (ds.length + 1))).filter fun j => decide (gn row ds.length + gn gaps ds.length ≤ gn row (ds.length + 1 + j))).map fun j : Nat => ((ds.length + 1 + j : Nat) : Int)).map .int := by rw [List.map_map]; rfl
  rw [hV]
  have lV : (((List.range (row.length - (ds.length + 1))).filter fun j => decide (gn row ds.length + gn gaps ds.length ≤ gn row (ds.length + 1 + j))).map fun j : Nat => ((ds.length + 1 + j : Nat) : Int)).length ≤ 1000 := by
   rw [List.length_map]
   refine Nat.le_trans (List.length_filter_le _ _) ?_
   rw [List.length_range]; lia
  generalize (((List.range (row.length - (ds.length + 1))).filter fun j => decide (gn row ds.length + gn gaps ds.length ≤ gn row (ds.length + 1 + j))).map fun j : Nat => ((ds.length + 1 + j : Nat) : Int)) = V at *
  refine xExpr (eMeth (by decide) (eLoc (show (fr.set 78 _).loc 77 = _ from f77) ⟨_, _, rfl, get_app pT, vCons (ePrim (vCons (eBin (eLoc rfl (eList (vCons (ePrim (vCons (eCel (show (fr.set 78 _).cel 64 = _ from f64) (get_app p64) (vNil (.len _ (seq_l (get_app r2)) (vNil ?_))))))))))))⟩))
  rw [List.length_map]
  refine oCat (.list (get_app app_at)) (.list app_at) (by rw [List.length_map]; show _ + 1 ≤ _; lia) (vNil (.min (V ++ [(row.length : Int)]) ⟨_, .list app_at, ?_⟩ (by simp) fun m hm hx => vNil (bAppend (get_app (get_app (get_app pT))) (by rw [List.length_map]; lia) (xNil ?_))))
  ·rw [show V.map AV.int ++ [AV.int (row.length : Int)] = (V ++ [(row.length : Int)]).map .int by rw [List.map_append]; rfl]; exact ints_map _
  ·refine ⟨T ++ [m], some (.int (ds.length : Int)), f77, fc, g2.more.more.more.fresh (Nat.le_add_right _ 3), get_set (get_app (get_app (get_app p64))) (Z23 2), get_set (get_app (get_app (get_app p76))) (Z25 (Nat.lt_succ_of_lt (Nat.lt_succ_self _))), get_set (get_app (get_app (get_app p24))) (Z25 (Nat.lt_succ_self _)), by rw [List.map_append]; exact get_self (get_app (get_app (get_app pT))), by rw [List.length_append, List.length_append, len]; rfl, fun i l => ?_⟩
   rw [List.length_append] at l
   rcases Nat.lt_or_eq_of_le (Nat.le_of_lt_succ l) with c | c
   ·rw [gn_app (len.symm ▸ c)]; exact nx i c
   ·rw [c, ← len, gn_last, len]; exact nm m hm hx
end
end Mine
namespace Mine
structure ToB (N : Nat) (to : Nat → Nat) (d b : Nat → Int) : Prop where
 up : ∀ i, i < N → i < to i ∧ to i ≤ N
 bd : ∀ i, i < N → b i = if to i < N then min (d i) (b (to i) - 1) else d i
inductive Ch (N : Nat) (to : Nat → Nat) (i : Nat) : List Nat → Nat → Prop
 | one (h : i < N) : Ch N to i [] i
 | more {os : List Nat} {j : Nat} (c : Ch N to i os j) (h : to j < N) : Ch N to i (os ++ [j]) (to j)
section
variable {N : Nat} {to : Nat → Nat} {d b : Nat → Int} {i : Nat} {os : List Nat} {j : Nat}
theorem Ch.lt (c : Ch N to i os j) : j < N := by
 cases c with
 | one h => exact h
 | more _ h => exact h
theorem Ch.all (c : Ch N to i os j) : ∀ k ∈ os, k < N := by
 induction c with
 | one => nofun
 | more c h ih => exact fun k hk => (List.mem_append.mp hk).elim (ih k) fun z => List.mem_singleton.mp z ▸ c.lt
theorem Ch.len (B : ToB N to d b) (c : Ch N to i os j) : i + os.length ≤ j := by
 induction c with
 | one => exact Nat.le_refl _
 | more c h ih => have := (B.up _ c.lt).1; rw [List.length_append, List.length_singleton]; lia
theorem Ch.low (B : ToB N to d b) (c : Ch N to i os j) : b i ≤ b j - os.length ∧ ∀ k, k < os.length → b i ≤ d (os.getD k 0) - k := by
 induction c with
 | one => exact ⟨by simp, nofun⟩
 | @more os j c h ih =>
  have z := B.bd j c.lt
  rw [if_pos h] at z
  have z1 : b j ≤ d j := z ▸ Int.min_le_left _ _
  have z2 : b j ≤ b (to j) - 1 := z ▸ Int.min_le_right _ _
  refine ⟨by rw [List.length_append, List.length_singleton]; have := ih.1; lia, fun k hk => ?_⟩
  rw [List.length_append] at hk
  rcases Nat.lt_or_eq_of_le (Nat.le_of_lt_succ hk) with y | y
  ·rw [List.getD_eq_getElem?_getD, List.getElem?_append_left y, ← List.getD_eq_getElem?_getD]; exact ih.2 k y
  ·rw [y, List.getD_eq_getElem?_getD, List.getElem?_concat_length]; have := ih.1; show b i ≤ d j - _; lia
theorem Ch.hit (B : ToB N to d b) (c : Ch N to i os j) : b i = b j - os.length ∨ ∃ k, k < os.length ∧ b i = d (os.getD k 0) - k := by
 induction c with
 | one => exact .inl (by simp)
 | @more os j c h ih =>
  have z := B.bd j c.lt
  rw [if_pos h] at z
  rcases ih with y | ⟨k, hk, y⟩
  ·rcases Int.le_total (d j) (b (to j) - 1) with x | x
   ·rw [Int.min_eq_left x] at z
    exact .inr ⟨os.length, by rw [List.length_append]; exact Nat.lt_succ_self _, by rw [List.getD_eq_getElem?_getD, List.getElem?_concat_length]; show b i = d j - _; lia⟩
   ·rw [Int.min_eq_right x] at z
    exact .inl (by rw [List.length_append, List.length_singleton]; lia)
  ·exact .inr ⟨k, by rw [List.length_append]; exact Nat.lt_succ_of_lt hk, by rw [List.getD_eq_getElem?_getD, List.getElem?_append_left hk, ← List.getD_eq_getElem?_getD]; exact y⟩
theorem Ch.min (B : ToB N to d b) (c : Ch N to i os j) (hj : ¬to j < N) {m : Int} (hm : m ∈ (List.range (os ++ [j]).length).map fun k => d ((os ++ [j]).getD k 0) - k) (hx : ∀ x ∈ (List.range (os ++ [j]).length).map fun k => d ((os ++ [j]).getD k 0) - (k : Int), m ≤ x) : m = b i := by
 have ej : b j = d j := by rw [B.bd j c.lt, if_neg hj]
 have at1 : ∀ k, k < os.length → (os ++ [j]).getD k 0 = os.getD k 0 := fun k h => by rw [List.getD_eq_getElem?_getD, List.getElem?_append_left h, ← List.getD_eq_getElem?_getD]
 have at2 : (os ++ [j]).getD os.length 0 = j := by rw [List.getD_eq_getElem?_getD, List.getElem?_concat_length]; rfl
 have inm : ∀ k, k ≤ os.length → d ((os ++ [j]).getD k 0) - (k : Int) ∈ (List.range (os ++ [j]).length).map fun k => d ((os ++ [j]).getD k 0) - (k : Int) := fun k h => List.mem_map.mpr ⟨k, List.mem_range.mpr (by rw [List.length_append]; exact Nat.lt_succ_of_le h), rfl⟩
 have lw := c.low B
 refine Int.le_antisymm ?_ ?_
 ·rcases c.hit B with y | ⟨k, hk, y⟩
  ·have := hx _ (inm os.length (Nat.le_refl _)); rw [at2] at this; lia
  ·have := hx _ (inm k (Nat.le_of_lt hk)); rw [at1 k hk] at this; lia
 ·obtain ⟨k, hk, e⟩ := List.mem_map.mp hm
  have hk := List.mem_range.mp hk
  rw [List.length_append] at hk
  rcases Nat.lt_or_eq_of_le (Nat.le_of_lt_succ hk) with y | y
  ·rw [at1 k y] at e; have := lw.2 k y; lia
  ·rw [y, at2] at e; have := lw.1; lia
end
theorem gLast {h : Hp} {p : Nat} {xs : List AV} {v : AV} {Q : AV → Prop} (e : h[p]? = some (.list (xs ++ [v]))) (q : Q v) : getIdx h Q (.ref p) (.int (-1)) := by
 have l : ((xs ++ [v]).length : Int) = xs.length + 1 := by rw [List.length_append]; rfl
 exact .neg e (by decide) (by rw [l]; lia) (by rw [l, show (-1 + ((xs.length : Int) + 1)).toNat = xs.length by lia]; exact List.getElem?_concat_length) q
section
variable {n : Nat} {h : Hp} {Q : AV → Hp → Prop}
noncomputable def fr15 (h : Hp) (kd kt : Nat) : Fm := (enterF g06_15 [] [(79, .ref kd), (80, .ref kt)] h).1
noncomputable abbrev nI (os : List Nat) : List AV := os.map fun k : Nat => .int (k : Int)
inductive BdJ (h : Hp) (kd kt : Nat) (b : Nat → Int) (ds : List Nat) (fr : Fm) (h' : Hp) : Prop
 | mk (R : List Int) (v : Option AV) (f81 : fr.loc 81 = some (.ref (h.length + 2))) (f80 : fr.loc 80 = some (.ref kt)) (fc : fr.cel = (fr15 h kd kt).cel) (g : Gr h h') (e79 : h'[h.length]? = some (.cell (some (.ref kd)))) (e82 : h'[h.length + 1]? = some (.cell v)) (eR : h'[h.length + 2]? = some (.list (R.map .int))) (len : R.length = ds.length) (nx : ∀ i, i < ds.length → gn R i = b i) : BdJ h kd kt b ds fr h'
inductive ChJ (h : Hp) (kd p : Nat) (R : List Int) (N : Nat) (to : Nat → Nat) (i : Nat) (fr1 : Fm) (m : Nat) (fr : Fm) (h' : Hp) : Prop
 | mk (os : List Nat) (j : Nat) (ef : fr = fr1) (g : Gr h h') (e79 : h'[h.length]? = some (.cell (some (.ref kd)))) (e82 : h'[h.length + 1]? = some (.cell (some (.ref p)))) (eR : h'[h.length + 2]? = some (.list (R.map .int))) (ep : h'[p]? = some (.list (nI os ++ [.int (j : Int)]))) (c : Ch N to i os j) (em : N - j = m) : ChJ h kd p R N to i fr1 m fr h'
theorem bounds_spec {kd kt : Nat} {dues To : List Int} {to : Nat → Nat} {b : Nat → Int} (ed : h[kd]? = some (.list (dues.map .int))) (et : h[kt]? = some (.list (To.map .int))) (hl : To.length ≤ 1000) (hd : To.length ≤ dues.length) (ht : ∀ i, i < To.length → gn To i = to i) (B : ToB To.length to (gn dues) b)
  (q : ∀ h' r R, Gr h h' → h'[r]? = some (.list (R.map .int)) → h.length ≤ r → R.length = To.length → (∀ i, i < To.length → gn R i = b i) → Q (.ref r) h') : (go (n + 14)).cl (.fn 15) [.ref kd, .ref kt] [] h Q := by
 refine cFn (f := g06_15) (b := [(79, .ref kd), (80, .ref kt)]) (h1 := h) rfl rfl rfl ?_
 show exStep (go (n + 12)) g06_15.body (fr15 h kd kt) (h ++ [.cell (some (.ref kd)), .cell none]) _
 have l2 : (h ++ [AObj.cell (some (.ref kd)), .cell none]).length = h.length + 2 := List.length_append
 have c79 : (fr15 h kd kt).cel 79 = some h.length := rfl
 have c82 : (fr15 h kd kt).cel 82 = some (h.length + 1) := rfl
 refine xAsg (eList (vNil ?_))
 rw [l2]
 have g1 : Gr h (h ++ [.cell (some (.ref kd)), .cell none] ++ [.list []]) := Kp.refl.more.more
 have o0 : (h ++ [AObj.cell (some (.ref kd)), .cell none] ++ [.list []])[h.length]? = some (.cell (some (.ref kd))) := get_app (app_n 0)
 have o1 : (h ++ [AObj.cell (some (.ref kd)), .cell none] ++ [.list []])[h.length + 1]? = some (.cell none) := get_app (app_n 1)
 have o2 : (h ++ [AObj.cell (some (.ref kd)), .cell none] ++ [.list []])[h.length + 2]? = some (.list (([] : List Int).map .int)) := l2 ▸ app_at
 refine xFor (src_r1 (ePrim (vCons (eLoc rfl (vNil (.len _ (seq_l (g1.get et)) ⟨_, rfl, by rw [List.length_map]; exact cast_small hl rfl, ?_⟩))))))
 rw [List.length_map]
 refine fkD (fun i : Nat => .one (.int (i : Int))) (List.range To.length) (BdJ h kd kt b) (rangeL0 _) ⟨[], none, rfl, rfl, rfl, g1, o0, o1, o2, rfl, nofun⟩ (fun _ _ _ _ => trivial) (fun ds i rs fr h' e j => ?_) fun fr h' j => BdJ.casesOn j fun R v f81 f80 fc g e79 e82 eR len nx => xRet (eLoc f81 (q h' _ R g eR (Nat.le_add_right _ _) (len.trans List.length_range) fun i l => nx i (List.length_range.symm ▸ l)))
 obtain ⟨ei, li⟩ := range_split e
 subst ei
 refine BdJ.casesOn j fun R v f81 f80 fc g e79 e82 eR len nx => .mk ?_
 have f82 := (congrFun fc 82).trans c82
 have f79 := (congrFun fc 79).trans c79
 refine xAsgC (eList (vCons (eLoc rfl (vNil ⟨f82, get_app e82, ?_⟩))))
 have lp : h.length + 2 < h'.length := lt_of_get eR
 have g2 : Gr h ((h' ++ [AObj.list [.int (ds.length : Int)]]).set (h.length + 1) (.cell (some (.ref h'.length)))) := g.more.fresh (Nat.le_succ _)
 have p79 : ((h' ++ [AObj.list [.int (ds.length : Int)]]).set (h.length + 1) (.cell (some (.ref h'.length))))[h.length]? = _ := get_set (get_app e79) (Z23 0)
 have p82 : ((h' ++ [AObj.list [.int (ds.length : Int)]]).set (h.length + 1) (.cell (some (.ref h'.length))))[h.length + 1]? = _ := get_self (get_app e82)
 have pR : ((h' ++ [AObj.list [.int (ds.length : Int)]]).set (h.length + 1) (.cell (some (.ref h'.length))))[h.length + 2]? = _ := get_set (get_app eR) (Z24 (Nat.lt_succ_self _))
 have pp : ((h' ++ [AObj.list [.int (ds.length : Int)]]).set (h.length + 1) (.cell (some (.ref h'.length))))[h'.length]? = _ := get_set app_at (Nat.ne_of_lt (Nat.lt_of_succ_lt lp))
 generalize (h' ++ [AObj.list [.int (ds.length : Int)]]).set (h.length + 1) (.cell (some (.ref h'.length))) = h2 at *
 generalize h'.length = p at *
 have f82 : (fr.set 24 (.int (ds.length : Int))).cel 82 = _ := f82
 have f79 : (fr.set 24 (.int (ds.length : Int))).cel 79 = _ := f79
 have f80' : (fr.set 24 (.int (ds.length : Int))).loc 80 = _ := f80
 have f81' : (fr.set 24 (.int (ds.length : Int))).loc 81 = _ := f81
 have fc' : (fr.set 24 (.int (ds.length : Int))).cel = _ := fc
 generalize fr.set 24 (.int (ds.length : Int)) = fr1 at *
 refine xWhile (ChJ h kd p R To.length to ds.length fr1) (To.length - ds.length) (Nat.lt_of_le_of_lt (Nat.le_trans (Nat.sub_le _ _) hl) (by decide)) ⟨[], ds.length, rfl, g2, p79, p82, pR, pp, .one li, rfl⟩ fun m fr2 h3 z => ChJ.casesOn z fun os j ef g3 q79 q82 qR qp c em => ?_
 subst ef
 have hj := c.lt
 have t3 := g3.get et
 refine eCmp <| eIdx <| eLoc f80' <| eIdx <| eCel f82 q82 <| eNeg <| eInt ⟨1, rfl, gLast qp <| gIx t3 hj <| ePrim <| vCons <| eLoc f80' <| vNil <| .len _ (seq_l t3) <| cLt ⟨_, rfl, ?_⟩⟩
 rw [List.length_map, ht j hj]
 by_cases w : to j < To.length
 ·rw [decide_eq_true (Int.ofNat_lt.mpr w), if_pos rfl]
  refine xEnter <| xExpr <| eMeth (by decide) <| eCel f82 q82 ⟨p, _, rfl, qp, vCons <| eIdx <| eLoc f80' <| eIdx <| eCel f82 q82 <| eNeg <| eInt ⟨1, rfl, gLast qp <| gIx t3 hj <| vNil <| bAppend qp ?_ <| xNil ⟨_, ?_, os ++ [j], to j, rfl, g3.fresh (Nat.le_of_lt (Nat.lt_of_succ_lt (Nat.lt_of_succ_lt lp))), get_set q79 (Nat.ne_of_gt (Nat.lt_of_succ_lt (Nat.lt_of_succ_lt lp))), get_set q82 (Nat.ne_of_gt (Nat.lt_of_succ_lt lp)), get_set qR (Nat.ne_of_gt lp), ?_, .more c w, rfl⟩⟩⟩
  ·have := c.len B; rw [List.length_append, List.length_map, List.length_singleton]; lia
  ·have := (B.up j hj).1; lia
  ·rw [ht j hj, show nI (os ++ [j]) = nI os ++ [.int (j : Int)] from List.map_append]; exact get_self qp
 ·rw [decide_eq_false (fun z => w (Int.ofNat_lt.mp z)), if_neg Bool.false_ne_true]
  have cl := c.len B
  have ep : h3[p]? = some (.list (((os ++ [j]).map fun k : Nat => (k : Int)).map .int)) := by rw [qp, List.map_map, List.map_append]; rfl
  have lo : ((os ++ [j]).map fun k : Nat => (k : Int)).length = os.length + 1 := by rw [List.length_map, List.length_append]; rfl
  refine xEnter <| xNil <| xExpr <| eMeth (by decide) <| eLoc f81' ⟨_, _, rfl, qR, vCons <| ePrim <| vCons <| eComp <| src_r1 <| ePrim <| vCons <| eCel f82 q82 <| vNil <| .len _ (seq_l ep) ⟨_, rfl, by rw [List.length_map, lo]; exact cast_small (m := 1000) (by lia) rfl, ?_⟩⟩
  rw [List.length_map, lo]
  refine ckP (n := n + 8) (fun k : Nat => .one (.int (k : Int))) (List.range (os.length + 1)) (fun _ => true) (fun k => .int (gn dues ((os ++ [j]).getD k 0) - (k : Int))) (rangeL0 _) trivial (by rw [List.length_range]; lia) (fun k hk fr' ef => ?_) ?_
  ·have hk := List.mem_range.mp hk
   have cc : ∀ {x r : Nat}, fr2.cel x = some r → [79, 82].contains x = true → (fr'.set 59 (.int (k : Int))).cel x = some r := fun {x r} z y => by
    show fr'.cel x = _
    rw [ef]
    show Option.or none (if [79, 82].contains x then fr2.cel x else none) = _
    rw [y, z]; rfl
   have ek : gn ((os ++ [j]).map fun k : Nat => (k : Int)) k = ((os ++ [j]).getD k 0 : Nat) := by
    unfold gn
    rw [List.getD_eq_getElem?_getD, List.getElem?_map, List.getD_eq_getElem?_getD, List.getElem?_eq_getElem (show k < (os ++ [j]).length by rw [List.length_append]; exact hk)]; rfl
   have lk : (os ++ [j]).getD k 0 < To.length := by
    rw [List.getD_eq_getElem?_getD, List.getElem?_eq_getElem (show k < (os ++ [j]).length by rw [List.length_append]; exact hk)]
    have key : ∀ x ∈ os ++ [j], x < To.length := fun x hx => (List.mem_append.mp hx).elim (c.all x) fun z => by rw [List.mem_singleton.mp z]; exact hj
    exact key _ (List.getElem_mem _)
   refine .mk ⟨rfl, rfl, ⟨rfl, rfl⟩, fun _ => eBin <| eIdx <| eCel (cc f79 rfl) q79 <| eIdx <| eCel (cc f82 rfl) q82 <| eLoc rfl <| gIx ep (lo.symm ▸ hk) ?_⟩
   rw [ek]
   exact gIx (g3.get ed) (Nat.lt_of_lt_of_le lk hd) (eLoc rfl (oSub ⟨rfl, rfl⟩))
  ·rw [List.filter_eq_self.mpr fun _ _ => rfl]
   have hV : (List.range (os.length + 1)).map (fun k => AV.int (gn dues ((os ++ [j]).getD k 0) - (k : Int))) = ((List.range (os ++ [j]).length).map fun k => gn dues ((os ++ [j]).getD k 0) - (k : Int)).map .int := by rw [List.map_map, List.length_append]; rfl
   rw [hV]
   refine .min _ (lints_l app_at) (fun z => by have := congrArg List.length z; rw [List.length_map, List.length_range, List.length_append] at this; cases this) fun m hm hx => vNil (bAppend (get_app qR) (by rw [List.length_map]; lia) (xNil ⟨R ++ [m], some (.ref p), f81', f80', fc', g3.more.fresh (Nat.le_add_right _ 2), get_set (get_app q79) (Z23 1), get_set (get_app q82) (Z25 (Nat.lt_succ_self _)), by rw [List.map_append]; exact get_self (get_app qR), by rw [List.length_append, List.length_append, len]; rfl, fun i l => ?_⟩))
   rw [List.length_append] at l
   rcases Nat.lt_or_eq_of_le (Nat.le_of_lt_succ l) with y | y
   ·rw [gn_app (len.symm ▸ y)]; exact nx i y
   ·rw [y, ← len, gn_last, len]; exact c.min B w hm hx
end
end Mine
namespace Mine
structure Ways (h : Hp) (k : Nat) (ws : List (Nat × Int × Int)) : Prop where
 lst : h[k]? = some (.list (ws.map fun x => .ref x.1))
 tup : ∀ x ∈ ws, h[x.1]? = some (.tuple [.int x.2.1, .int x.2.2])
theorem Ways.gr {h h' : Hp} {k : Nat} {ws : List (Nat × Int × Int)} (W : Ways h k ws) (g : Gr h h') : Ways h' k ws := ⟨g.get W.lst, fun x hx => g.get (W.tup x hx)⟩
noncomputable def prd (ws : List (Nat × Int × Int)) (p : Int) : List Int := (ws.filter fun x => decide (x.2.2 = p)).map fun x => x.2.1
noncomputable def adds6 (ws : List (Nat × Int × Int)) (ds : List Nat) : List (Int × List Int) := ds.flatMap fun p : Nat => [((p : Int), prd ws p), ((p : Int), [])]
theorem adds6_snoc {ws : List (Nat × Int × Int)} {ds : List Nat} {p : Nat} : adds6 ws (ds ++ [p]) = (adds6 ws ds ++ [((p : Int), prd ws p)]) ++ [((p : Int), [])] := by
 unfold adds6
 rw [List.flatMap_append, List.flatMap_singleton, List.append_assoc]; rfl
section
variable {n : Nat} {h : Hp} {Q : AV → Hp → Prop}
inductive S6J (h : Hp) (k kw : Nat) (ws : List (Nat × Int × Int)) (ds : List Nat) (fr : Fm) (h' : Hp) : Prop
 | mk (v : Option AV) (f44 : fr.loc 44 = some (.ref k)) (f83 : fr.loc 83 = some (.ref kw)) (fc : fr.cel 84 = some h.length) (ec : h'[h.length]? = some (.cell v)) (F : Nat → Prop) (w : Wit) (R : RS h' k F (built (adds6 ws ds)) w) (g : Gr h h') (fn : ∀ j, F j → h.length < j) (kF : ¬F k) (kn : h.length < k) : S6J h k kw ws ds fr h'
theorem sorter6_spec {kp kw N : Nat} {ws : List (Nat × Int × Int)} {M : List Int} {rk : Int → Nat} (ep : h[kp]? = some (.list ((List.range N).map fun i : Nat => .int (i : Int)))) (W : Ways h kw ws) (A : Adds (adds6 ws (List.range N)) M rk) (lw : ws.length ≤ 200)
  (q : ∀ h' k, Own h k (built (adds6 ws (List.range N))).prep h' → h.length ≤ k → Q (.ref k) h') : (go (n + 27)).cl (.fn 13) [.ref kp, .ref kw] [] h Q := by
 refine cFn (f := g06_13) (b := [(62, .ref kp), (83, .ref kw)]) (h1 := h) rfl rfl rfl ?_
 show exStep (go (n + 25)) g06_13.body (enterF g06_13 [] [(62, .ref kp), (83, .ref kw)] h).1 (h ++ [.cell none]) _
 have l1 : (h ++ [AObj.cell none]).length = h.length + 1 := List.length_append
 refine xAsg (eCall (eCls (vNil (vNil ?_))))
 refine new_spec (n := n + 17) fun h1 k F w R1 kp1 fn1 kF1 kn1 => ?_
 have g1 : Gr h h1 := Kp.refl.more.tr kp1
 refine xFor (src_seq (eLoc rfl (.mk (g1.get ep) rfl ?_)))
 refine fkD (fun i : Nat => .one (.int (i : Int))) (List.range N) (S6J h k kw ws) (by rw [List.map_map]; rfl) ⟨none, rfl, rfl, rfl, kp1.keep _ _ id tup_at, F, w, R1, g1, fun j hj => Nat.le_trans (Nat.le_of_eq l1.symm) (fn1 j hj), kF1, Nat.le_trans (Nat.le_of_eq l1.symm) kn1⟩ (fun ds fr h' j => S6J.casesOn j fun v _ _ _ _ F w R g _ _ _ => g.get ep) (fun ds i rs fr h' e j => ?_) fun fr h' j => ?_
 ·refine S6J.casesOn j fun v f44 f83 fc ec F w R g fn kF kn => .mk (.mk fc ec ?_)
  have hF : ¬F h.length := fun z => Nat.lt_irrefl _ (fn _ z)
  have R := R.move (h' := h'.set h.length (.cell (some (.int (i : Int))))) (Nat.le_of_eq List.length_set.symm) fun j o z e => get_set e fun y => z.elim (fun z => hF (y ▸ z)) fun z => Nat.ne_of_lt kn (y.trans z)
  have g : Gr h (h'.set h.length (.cell (some (.int (i : Int))))) := g.fresh (Nat.le_refl _)
  have ec : (h'.set h.length (.cell (some (.int (i : Int)))))[h.length]? = _ := get_self ec
  generalize h'.set h.length (.cell (some (.int (i : Int)))) = h2 at *
  have Wt := W.gr g
  have e2 : adds6 ws (List.range N) = adds6 ws ds ++ ([((i : Int), prd ws i), ((i : Int), [])] ++ adds6 ws rs) := by
   rw [e]; unfold adds6; rw [List.flatMap_append, List.flatMap_cons]
  have e3 : adds6 ws (List.range N) = (adds6 ws ds ++ [((i : Int), prd ws i)]) ++ ([((i : Int), [])] ++ adds6 ws rs) := by rw [e2, List.append_assoc]; rfl
  have kl := A.ksl e2 R.nd
  have pl : (prd ws i).length ≤ 200 := A.pl ((i : Int), prd ws i) (by rw [e2]; simp)
  refine xExpr (eOwn (j := 3) rfl (eLoc f44 ⟨k, _, rfl, R.inst, vCons (eCel fc ec (vNil ?_))⟩))
  show (go (n + 23)).ev _ _ _ _
  refine eComp (src_seq (eLoc f83 (.mk Wt.lst rfl ?_)))
  refine ckP (n := n + 22) (fun x : Nat × Int × Int => .one (.ref x.1)) ws (fun x => decide (x.2.2 = (i : Int))) (fun x => .int x.2.1) (by rw [List.map_map]; rfl) Wt.lst (by lia) (fun x hx fr' ef => .tup (Wt.tup x hx) rfl ⟨rfl, rfl, eCmp (eLoc rfl (eCel (show fr'.cel 84 = _ by rw [ef]; exact fc) ec (cEq ⟨_, rfl, ?_⟩))), fun _ => eLoc rfl ⟨rfl, rfl⟩⟩) ?_
  ·cases decide (x.2.2 = (i : Int)) <;> exact ⟨rfl, rfl⟩
  ·have em : (ws.filter fun x => decide (x.2.2 = (i : Int))).map (fun x => AV.int x.2.1) = (prd ws i).map .int := by unfold prd; rw [List.map_map]; rfl
   rw [em]
   have R := R.grow [.list ((prd ws i).map .int)]
   refine ⟨_, .list tup_at, by rw [List.length_map]; lia, ?_⟩
   refine f3_spec (n := n + 3) R (built_bt _).rd (by lia) (fun j => by have := A.sul e2 j; lia) kF fun h3 F3 w3 A3 => ?_
   have R3 : RS h3 k F3 (built (adds6 ws ds ++ [((i : Int), prd ws i)])) w3 := by rw [built_snoc]; exact A3.rs
   have g3 := Gr.aft (g.more (t := [.list ((prd ws i).map .int)])) A3.kp fun j z => Nat.le_of_lt (fn j z)
   have fn3 : ∀ j, F3 j → h.length < j := fun j z => (A3.fo j z).elim (fn j) fun l => Nat.lt_of_lt_of_le (lt_of_get ec) (Nat.le_trans (by rw [List.length_append]; exact Nat.le_add_right _ _) l)
   have kF3 := (A3.kept kF R.inst).1
   have ec3 := A3.kp.keep _ _ hF (get_app ec)
   refine xExpr (eOwn (j := 3) rfl (eLoc f44 ⟨k, _, rfl, R3.inst, vCons (eCel fc ec3 (vNil ?_))⟩))
   refine f3_spec (n := n + 3) (ps := []) R3 (built_bt _).rd (by have := A.ksl e3 R3.nd; exact Nat.le_trans this (by decide)) (fun j => by have := A.sul e3 j; exact Nat.le_trans this (by decide)) kF3 fun h4 F4 w4 A4 => xNil ?_
   refine ⟨_, f44, f83, fc, A4.kp.keep _ _ (fun z => Nat.lt_irrefl _ (fn3 _ z)) ec3, F4, w4, ?_, g3.aft A4.kp fun j z => Nat.le_of_lt (fn3 j z), fun j z => (A4.fo j z).elim (fn3 j) fun l => Nat.lt_of_lt_of_le (lt_of_get ec3) l, (A4.kept kF3 R3.inst).1, kn⟩
   rw [adds6_snoc, built_snoc]; exact A4.rs
 ·refine S6J.casesOn j fun v f44 f83 fc ec F w R g fn kF kn => ?_
  refine xExpr (eOwn (j := 4) rfl (eLoc f44 ⟨k, _, rfl, R.inst, vNil ?_⟩))
  exact prep_spec (n := n + 7) A R kF fun h2 F2 w2 A2 => xRet (eLoc f44 (q h2 k ⟨F2, w2, A2.rs, g.aft A2.kp fun j z => Nat.le_of_lt (fn j z), g.own A2.fo fun j z => Nat.le_of_lt (fn j z), (A2.kept kF R.inst).1⟩ (Nat.le_of_lt kn)))
end
end Mine
namespace Mine
noncomputable def cnt (n : Nat) (p : Nat → Bool) : Nat := (List.range n).countP p
theorem cnt_mono {n : Nat} {p q : Nat → Bool} (h : ∀ i, i < n → p i = true → q i = true) : cnt n p ≤ cnt n q := List.countP_mono_left fun i hi z => h i (List.mem_range.mp hi) z
theorem cnt_pos {n : Nat} {p : Nat → Bool} {i : Nat} (hi : i < n) (h : p i = true) : 0 < cnt n p := List.countP_pos_iff.mpr ⟨i, List.mem_range.mpr hi, h⟩
theorem cnt_ex {n : Nat} {p : Nat → Bool} (h : 0 < cnt n p) : ∃ i, i < n ∧ p i = true := by
 obtain ⟨i, a, b⟩ := List.countP_pos_iff.mp h
 exact ⟨i, List.mem_range.mp a, b⟩
theorem cnt_or {n : Nat} {p q : Nat → Bool} (h : ∀ i, p i = true → q i = false) : cnt n (fun i => p i || q i) = cnt n p + cnt n q := by
 unfold cnt
 induction List.range n with
 | nil => rfl
 | cons a l ih =>
  rw [List.countP_cons, List.countP_cons, List.countP_cons, ih]
  cases e : p a with
  | true => rw [h a e]; simp; lia
  | false => cases q a <;> simp <;> lia
theorem cnt_inj {n : Nat} {p q : Nat → Bool} (f : Nat → Nat) (h : ∀ i, i < n → p i = true → f i < n ∧ q (f i) = true) (inj : ∀ i j, i < n → j < n → p i = true → p j = true → f i = f j → i = j) : cnt n p ≤ cnt n q := by
 unfold cnt
 rw [List.countP_eq_length_filter, List.countP_eq_length_filter, ← List.length_map (f := f)]
 have nd : (((List.range n).filter p).map f).Nodup := by
  rw [List.nodup_iff_pairwise_ne, List.pairwise_map]
  refine List.Pairwise.imp_of_mem (fun {a b} ha hb (hab : a ≠ b) e => ?_) (List.nodup_range.filter p)
  obtain ⟨a1, a2⟩ := List.mem_filter.mp ha
  obtain ⟨b1, b2⟩ := List.mem_filter.mp hb
  exact hab (inj a b (List.mem_range.mp a1) (List.mem_range.mp b1) a2 b2 e)
 refine nd.length_le_of_subset fun x hx => ?_
 obtain ⟨i, hi, rfl⟩ := List.mem_map.mp hx
 obtain ⟨a1, a2⟩ := List.mem_filter.mp hi
 have := h i (List.mem_range.mp a1) a2
 exact List.mem_filter.mpr ⟨List.mem_range.mpr this.1, this.2⟩
structure Sch (N h : Nat) (to : Nat → Nat) (d b : Nat → Int) (E : Nat → Nat) : Prop where
 hp : 0 < h
 up : ∀ i, i < N → i < to i ∧ to i ≤ N
 bd : ∀ i, i < N → b i = if to i < N then min (d i) (b (to i) - 1) else d i
 e1 : ∀ i, i < N → 1 ≤ E i
 e2 : ∀ i, i < N → to i < N → E i < E (to i)
 e3 : ∀ t, cnt N (fun i => decide (E i = t)) ≤ h
 e4 : ∀ i t, i < N → 1 ≤ t → t < E i → (∀ p, p < N → to p = i → E p < t) → h ≤ cnt N fun j => decide (E j = t) && decide (b j ≤ b i)
section
variable {N h : Nat} {to : Nat → Nat} {d b : Nat → Int} {E : Nat → Nat} (S : Sch N h to d b E)
include S
theorem Sch.low {i : Nat} (hi : i < N) (l : to i < N) : b i ≤ b (to i) - 1 := by rw [S.bd i hi, if_pos l]; exact Int.min_le_right _ _
theorem Sch.bled {i : Nat} (hi : i < N) : b i ≤ d i := by
 rw [S.bd i hi]; split
 ·exact Int.min_le_left _ _
 ·exact Int.le_refl _
theorem Sch.few {k t : Nat} (ht : 1 ≤ t) (hc : cnt N (fun j => decide (E j = t) && decide (b j ≤ b k)) < h) {i : Nat} (hi : i < N) (l : t < E i) (hb : b i ≤ b k) : ∃ p, p < N ∧ to p = i ∧ t ≤ E p := by
 refine Classical.byContradiction fun hn => ?_
 have := S.e4 i t hi ht l fun p hp e => Nat.lt_of_not_le fun z => hn ⟨p, hp, e, z⟩
 refine Nat.not_lt_of_le this (Nat.lt_of_le_of_lt (cnt_mono fun j _ z => ?_) hc)
 rw [Bool.and_eq_true, decide_eq_true_iff, decide_eq_true_iff] at z ⊢
 exact ⟨z.1, Int.le_trans z.2 hb⟩
theorem Sch.few_next {k t : Nat} (ht : 1 ≤ t) (hc : cnt N (fun j => decide (E j = t) && decide (b j ≤ b k)) < h) : cnt N (fun j => decide (E j = t + 1) && decide (b j ≤ b k)) < h := by
 refine Nat.lt_of_le_of_lt ?_ hc
 have key : ∀ i, i < N → (decide (E i = t + 1) && decide (b i ≤ b k)) = true → ∃ p, p < N ∧ to p = i ∧ E p = t ∧ b p ≤ b k := fun i hi z => by
  rw [Bool.and_eq_true, decide_eq_true_iff, decide_eq_true_iff] at z
  obtain ⟨p, hp, e, l⟩ := S.few ht hc hi (by rw [z.1]; exact Nat.lt_succ_self t) z.2
  have := S.e2 p hp (e ▸ hi)
  rw [e, z.1] at this
  have := S.low hp (e ▸ hi)
  rw [e] at this
  exact ⟨p, hp, e, by lia, by lia⟩
 let f : Nat → Nat := fun i => Classical.epsilon fun p => p < N ∧ to p = i ∧ E p = t ∧ b p ≤ b k
 have fs : ∀ i, i < N → (decide (E i = t + 1) && decide (b i ≤ b k)) = true → f i < N ∧ to (f i) = i ∧ E (f i) = t ∧ b (f i) ≤ b k := fun i hi z => Classical.epsilon_spec (p := fun p => p < N ∧ to p = i ∧ E p = t ∧ b p ≤ b k) (key i hi z)
 refine cnt_inj f (fun i hi z => ⟨(fs i hi z).1, ?_⟩) fun i j hi hj zi zj e => ?_
 ·rw [Bool.and_eq_true, decide_eq_true_iff, decide_eq_true_iff]
  exact (fs i hi z).2.2
 ·rw [← (fs i hi zi).2.1, ← (fs j hj zj).2.1, e]
theorem Sch.few_all {k t : Nat} (ht : 1 ≤ t) (hc : cnt N (fun j => decide (E j = t) && decide (b j ≤ b k)) < h) : ∀ m, cnt N (fun j => decide (E j = t + m) && decide (b j ≤ b k)) < h
 | 0 => hc
 | m + 1 => S.few_next (Nat.le_trans ht (Nat.le_add_right t m)) (Sch.few_all ht hc m)
omit S in
theorem Sch.full {k : Nat} : ∀ m, (∀ t, 1 ≤ t → t ≤ m → h ≤ cnt N fun j => decide (E j = t) && decide (b j ≤ b k)) → h * m ≤ cnt N fun j => decide (E j ≤ m) && decide (b j ≤ b k)
 | 0, _ => Nat.zero_le _
 | m + 1, hf => by
  have ih := Sch.full (k := k) m fun t a c => hf t a (Nat.le_succ_of_le c)
  have l := hf (m + 1) (Nat.le_add_left 1 m) (Nat.le_refl _)
  have e := cnt_or (n := N) (p := fun j => decide (E j ≤ m) && decide (b j ≤ b k)) (q := fun j => decide (E j = m + 1) && decide (b j ≤ b k)) fun i z => by
   rw [Bool.and_eq_true, decide_eq_true_iff] at z
   rw [decide_eq_false (show ¬E i = m + 1 by lia)]; rfl
  rw [Nat.mul_succ]
  refine Nat.le_trans (Nat.add_le_add ih l) (Nat.le_trans (Nat.le_of_eq e.symm) (cnt_mono fun i _ z => ?_))
  rw [Bool.or_eq_true, Bool.and_eq_true, Bool.and_eq_true, decide_eq_true_iff, decide_eq_true_iff, decide_eq_true_iff] at z
  rw [Bool.and_eq_true, decide_eq_true_iff, decide_eq_true_iff]
  rcases z with z | z
  ·exact ⟨Nat.le_succ_of_le z.1, z.2⟩
  ·exact ⟨Nat.le_of_eq z.1, z.2⟩
theorem Sch.upper : ∀ (T i : Nat), i < N → E i = T → ∃ k, k < N ∧ (T : Int) - b i ≤ (((cnt N fun j => decide (b j ≤ b k)) + h - 1) / h : Nat) - b k := by
 intro T
 induction T with
 | zero => intro i hi e; have := S.e1 i hi; lia
 | succ T ih =>
  intro i hi e
  by_cases hf : ∀ t, 1 ≤ t → t ≤ T → h ≤ cnt N fun j => decide (E j = t) && decide (b j ≤ b i)
  ·refine ⟨i, hi, ?_⟩
   have f1 := Sch.full T hf
   have e1 := cnt_or (n := N) (p := fun j => decide (E j ≤ T) && decide (b j ≤ b i)) (q := fun j => decide (j = i)) fun j z => by
    rw [Bool.and_eq_true, decide_eq_true_iff] at z
    refine decide_eq_false fun q => ?_
    rw [q, e] at z; lia
   have f2 : 0 < cnt N fun j => decide (j = i) := cnt_pos hi (decide_eq_true rfl)
   have f3 : (cnt N fun j => (decide (E j ≤ T) && decide (b j ≤ b i)) || decide (j = i)) ≤ cnt N fun j => decide (b j ≤ b i) := cnt_mono fun j _ z => by
    rw [Bool.or_eq_true, Bool.and_eq_true, decide_eq_true_iff, decide_eq_true_iff, decide_eq_true_iff] at z
    rcases z with z | z
    ·exact decide_eq_true z.2
    ·exact decide_eq_true (z ▸ Int.le_refl _)
   have hp := S.hp
   have : T + 1 ≤ ((cnt N fun j => decide (b j ≤ b i)) + h - 1) / h := (Nat.le_div_iff_mul_le hp).mpr (by rw [Nat.mul_comm, Nat.mul_succ]; lia)
   lia
  ·obtain ⟨t, z⟩ := Classical.not_forall.mp hf
   obtain ⟨t1, z⟩ := Classical.not_imp.mp z
   obtain ⟨t2, z⟩ := Classical.not_imp.mp z
   have z := S.few_all t1 (Nat.lt_of_not_le z) (T - t)
   rw [show t + (T - t) = T by lia] at z
   obtain ⟨p, hp, ep, lp⟩ := S.few (Nat.le_trans t1 t2) z hi (by lia) (Int.le_refl _)
   have l1 := S.e2 p hp (ep ▸ hi)
   have l2 := S.low hp (ep ▸ hi)
   rw [ep] at l1 l2
   obtain ⟨k, hk, lk⟩ := ih p hp (by lia)
   exact ⟨k, hk, by lia⟩
theorem Sch.most {k : Nat} : ∀ m, cnt N (fun j => decide (E j ≤ m) && decide (b j ≤ b k)) ≤ h * m := by
 intro m
 induction m with
 | zero =>
  refine Nat.le_of_not_lt fun l => ?_
  obtain ⟨i, hi, y⟩ := cnt_ex (Nat.lt_of_le_of_lt (Nat.zero_le _) l)
  rw [Bool.and_eq_true, decide_eq_true_iff] at y
  have := S.e1 i hi; lia
 | succ m ih =>
  rw [Nat.mul_succ]
  have e := cnt_or (n := N) (p := fun j => decide (E j ≤ m) && decide (b j ≤ b k)) (q := fun j => decide (E j = m + 1) && decide (b j ≤ b k)) fun i z => by
   rw [Bool.and_eq_true, decide_eq_true_iff] at z
   rw [decide_eq_false (show ¬E i = m + 1 by lia)]; rfl
  refine Nat.le_trans (Nat.le_trans (cnt_mono fun i _ z => ?_) (Nat.le_of_eq e)) (Nat.add_le_add ih (Nat.le_trans (cnt_mono fun i _ z => ?_) (S.e3 (m + 1))))
  ·rw [Bool.and_eq_true, decide_eq_true_iff] at z
   rw [Bool.or_eq_true, Bool.and_eq_true, Bool.and_eq_true, decide_eq_true_iff, decide_eq_true_iff]
   rw [decide_eq_true_iff] at *
   rcases Nat.lt_or_eq_of_le z.1 with q | q
   ·exact .inl ⟨Nat.le_of_lt_succ q, z.2⟩
   ·exact .inr ⟨q, z.2⟩
  ·rw [Bool.and_eq_true] at z; exact z.1
theorem Sch.lower {k : Nat} (hk : k < N) : ∃ i, i < N ∧ (((cnt N fun j => decide (b j ≤ b k)) + h - 1) / h : Nat) - b k ≤ (E i : Int) - b i := by
 have key : ∀ m, (∀ j, j < N → b j ≤ b k → E j ≤ m) → cnt N (fun j => decide (b j ≤ b k)) ≤ h * m := fun m z =>
  Nat.le_trans (cnt_mono fun i hi y => by rw [Bool.and_eq_true, decide_eq_true_iff]; exact ⟨z i hi (of_decide_eq_true y), y⟩) (S.most m)
 refine Classical.byContradiction fun hn => ?_
 have hn : ∀ i, i < N → b i ≤ b k → (E i : Int) + 1 ≤ (((cnt N fun j => decide (b j ≤ b k)) + h - 1) / h : Nat) := fun i hi l => by
  refine Classical.byContradiction fun z => hn ⟨i, hi, by lia⟩
 have hp := S.hp
 generalize hc : (cnt N fun j => decide (b j ≤ b k)) = c at *
 have lc : 0 < c := by rw [← hc]; exact cnt_pos hk (decide_eq_true (Int.le_refl _))
 obtain ⟨m, em⟩ : ∃ m, (c + h - 1) / h = m + 1 := ⟨(c + h - 1) / h - 1, by
  have : 1 ≤ (c + h - 1) / h := (Nat.le_div_iff_mul_le hp).mpr (by lia)
  lia⟩
 have l := key m fun j hj lj => by have := hn j hj lj; rw [em] at this; lia
 have : (c + h - 1) / h ≤ m := Nat.le_of_lt_succ ((Nat.div_lt_iff_lt_mul hp).mpr (by rw [Nat.mul_comm, Nat.mul_succ]; lia))
 lia
theorem Sch.late : ∀ (m i : Nat), N - i ≤ m → i < N → ∃ j, j < N ∧ (E i : Int) - b i ≤ E j - d j := by
 intro m
 induction m with
 | zero => intro i l hi; lia
 | succ m ih =>
  intro i l hi
  have u := S.up i hi
  by_cases c : to i < N
  ·have z := S.bd i hi
   rw [if_pos c] at z
   rcases Int.le_total (d i) (b (to i) - 1) with y | y
   ·rw [Int.min_eq_left y] at z; exact ⟨i, hi, by lia⟩
   ·rw [Int.min_eq_right y] at z
    obtain ⟨j, hj, lj⟩ := ih (to i) (by lia) c
    have := S.e2 i hi c
    exact ⟨j, hj, by lia⟩
  ·have z := S.bd i hi
   rw [if_neg c] at z
   exact ⟨i, hi, by lia⟩
theorem Sch.law {l c : Int} (l1 : ∃ i, i < N ∧ l = E i - d i) (l2 : ∀ i, i < N → (E i : Int) - d i ≤ l) (c1 : ∃ k, k < N ∧ c = (((cnt N fun j => decide (b j ≤ b k)) + h - 1) / h : Nat) - b k) (c2 : ∀ k, k < N → (((cnt N fun j => decide (b j ≤ b k)) + h - 1) / h : Nat) - b k ≤ c) : l = c := by
 refine Int.le_antisymm ?_ ?_
 ·obtain ⟨i, hi, e⟩ := l1
  obtain ⟨k, hk, z⟩ := S.upper (E i) i hi rfl
  have := c2 k hk
  have := S.bled hi
  lia
 ·obtain ⟨k, hk, e⟩ := c1
  obtain ⟨i, hi, z⟩ := S.lower hk
  obtain ⟨j, hj, y⟩ := S.late N i (Nat.sub_le _ _) hi
  have := l2 j hj
  lia
end
end Mine
namespace Mine
section
variable {α : Type}
theorem insS_lt {k k' : Int} {v v' : α} {r : List (Int × α)} (c : k < k') : insS k v ((k', v') :: r) = (k, v) :: (k', v') :: r := if_pos c
theorem insS_ge {k k' : Int} {v v' : α} {r : List (Int × α)} (c : ¬k < k') : insS k v ((k', v') :: r) = (k', v') :: insS k v r := if_neg c
noncomputable def Srt (l : List (Int × α)) : Prop := l.Pairwise fun a b => a.1 ≤ b.1
theorem insS_srt {k : Int} {v : α} : ∀ {l : List (Int × α)}, Srt l → Srt (insS k v l)
 | [], _ => List.pairwise_singleton _ _
 | (k', v') :: r, h => by
  have h' := List.pairwise_cons.mp h
  unfold insS
  split
  ·next c => exact List.pairwise_cons.mpr ⟨fun q hq => (List.mem_cons.mp hq).elim (fun e => e ▸ Int.le_of_lt c) fun hq => Int.le_trans (Int.le_of_lt c) (h'.1 q hq), h⟩
  ·next c => exact List.pairwise_cons.mpr ⟨fun q hq => (mem_insS.mp hq).elim (fun e => e ▸ Int.not_lt.mp c) (h'.1 q), insS_srt h'.2⟩
theorem sortS_srt (l : List (Int × α)) : Srt (sortS l) := by
 unfold sortS
 suffices ∀ (l acc : List (Int × α)), Srt acc → Srt (l.foldl (fun acc p => insS p.1 p.2 acc) acc) from this l [] .nil
 intro l
 induction l with
 | nil => exact fun _ h => h
 | cons p l ih => exact fun acc h => ih _ (insS_srt h)
theorem insS_at {k : Int} {v : α} : ∀ {l : List (Int × α)} {r : Nat}, r ≤ l.length → (∀ i p, i < r → l[i]? = some p → p.1 ≤ k) → (∀ i p, r ≤ i → l[i]? = some p → ¬p.1 ≤ k) → insS k v l = l.take r ++ (k, v) :: l.drop r
 | [], r, h, _, _ => by rw [Nat.le_zero.mp h]; rfl
 | (k', v') :: l, 0, _, _, hr => by
  unfold insS
  rw [if_pos (Int.not_le.mp (hr 0 _ (Nat.le_refl 0) rfl))]; rfl
 | (k', v') :: l, r + 1, h, hl, hr => by
  unfold insS
  rw [if_neg (Int.not_lt.mpr (hl 0 _ (Nat.zero_lt_succ r) rfl)), insS_at (r := r) (Nat.le_of_succ_le_succ h) (fun i p z e => hl (i + 1) p (Nat.succ_lt_succ z) e) fun i p z e => hr (i + 1) p (Nat.succ_le_succ z) e]
  rfl
theorem insS_filter (p : Int × α → Bool) {k : Int} {v : α} : ∀ {l : List (Int × α)}, Srt l → (insS k v l).filter p = if p (k, v) then insS k v (l.filter p) else l.filter p
 | [], _ => by cases e : p (k, v) <;> simp [insS, e]
 | (k', v') :: r, h => by
  have h' := List.pairwise_cons.mp h
  by_cases c : k < k'
  ·rw [insS_lt c]
   cases e : p (k, v) with
   | false => rw [List.filter_cons, e]; rfl
   | true =>
    rw [List.filter_cons, e, if_pos rfl, if_pos rfl]
    have : ∀ l : List (Int × α), (∀ q ∈ l, k < q.1) → insS k v l = (k, v) :: l := fun l hl => by
     cases l with
     | nil => rfl
     | cons q l => exact insS_lt (hl q (.head _))
    refine (this _ fun q hq => ?_).symm
    have hq := (List.mem_filter.mp hq).1
    exact (List.mem_cons.mp hq).elim (fun e => e ▸ c) fun hq => Int.lt_of_lt_of_le c (h'.1 q hq)
  ·rw [insS_ge c, List.filter_cons, List.filter_cons, insS_filter p h'.2]
   cases e : p (k', v') with
   | false => rfl
   | true =>
    cases e2 : p (k, v) with
    | false => rfl
    | true => exact (insS_ge c).symm
theorem sortS_filter (p : Int × α → Bool) (l : List (Int × α)) : (sortS l).filter p = sortS (l.filter p) := by
 unfold sortS
 suffices ∀ (l acc : List (Int × α)), Srt acc → (l.foldl (fun acc p => insS p.1 p.2 acc) acc).filter p = (l.filter p).foldl (fun acc p => insS p.1 p.2 acc) (acc.filter p) from this l [] .nil
 intro l
 induction l with
 | nil => exact fun _ _ => rfl
 | cons q l ih =>
  intro acc h
  rw [List.foldl_cons, ih _ (insS_srt h), insS_filter p h, List.filter_cons]
  cases p (q.1, q.2) <;> rfl
end
theorem filter_drop : ∀ {l : List Int} (m : Nat), l.Nodup → l.filter (fun x => decide (x ∉ l.take m)) = l.drop m
 | [], _, _ => by simp
 | x :: l, 0, _ => by rw [List.take_zero, List.drop_zero]; exact List.filter_eq_self.mpr fun y _ => decide_eq_true List.not_mem_nil
 | x :: l, m + 1, nd => by
  have nd' := List.nodup_cons.mp nd
  rw [List.take_succ_cons, List.drop_succ_cons, List.filter_cons, if_neg (by simp), ← filter_drop m nd'.2]
  refine List.filter_congr fun y hy => decide_eq_decide.mpr ?_
  rw [List.mem_cons]
  exact ⟨fun z q => z (.inr q), fun z q => q.elim (fun e => nd'.1 (e ▸ hy)) z⟩
noncomputable def srt (b : Int → Int) (w : List Int) : List Int := (sortS (w.map fun x => (b x, x))).map Prod.snd
theorem srt_fst {b : Int → Int} {w : List Int} {p : Int × Int} (h : p ∈ sortS (w.map fun x => (b x, x))) : p = (b p.2, p.2) ∧ p.2 ∈ w := by
 obtain ⟨x, hx, e⟩ := List.mem_map.mp ((sortS_perm _).mem_iff.mp h)
 rw [← e]; exact ⟨rfl, hx⟩
theorem srt_perm (b : Int → Int) (w : List Int) : (srt b w).Perm w := by
 have := (sortS_perm (w.map fun x => (b x, x))).map Prod.snd
 rw [List.map_map] at this
 exact this.trans (by rw [show (Prod.snd ∘ fun x : Int => (b x, x)) = id from rfl, List.map_id])
theorem srt_pair {b : Int → Int} {w : List Int} : sortS (w.map fun x => (b x, x)) = (srt b w).map fun x => (b x, x) := by
 unfold srt
 rw [List.map_map]
 conv => lhs; rw [← List.map_id (sortS (w.map fun x => (b x, x)))]
 exact List.map_congr_left fun p hp => (srt_fst hp).1
theorem srt_pw {b : Int → Int} {w : List Int} : (srt b w).Pairwise fun x y => b x ≤ b y := by
 have : ((srt b w).map fun x => (b x, x)).Pairwise fun p q => p.1 ≤ q.1 := srt_pair ▸ sortS_srt (w.map fun x => (b x, x))
 rw [List.pairwise_map] at this
 exact this
theorem srt_snoc {b : Int → Int} {w : List Int} {x : Int} {r : Nat} (a : At (fun i => decide (b ((srt b w).getD i 0) ≤ b x)) 0 (srt b w).length r) : srt b (w ++ [x]) = (srt b w).take r ++ x :: (srt b w).drop r := by
 have e : srt b (w ++ [x]) = (insS (b x) x (sortS (w.map fun x => (b x, x)))).map Prod.snd := by unfold srt; rw [List.map_append]; exact congrArg _ (sortS_snoc _ _ _)
 rw [e, srt_pair, insS_at (r := r) (by rw [List.length_map]; exact a.l1) (fun i p z ep => ?_) fun i p z ep => ?_, ← List.map_take, ← List.map_drop, List.map_append, List.map_cons, List.map_map, List.map_map, show (Prod.snd ∘ fun x : Int => (b x, x)) = id from rfl, List.map_id, List.map_id]
 ·obtain ⟨y, ey, q⟩ := Option.map_eq_some_iff.mp (List.getElem?_map ▸ ep)
  have := of_decide_eq_true (a.left i (Nat.zero_le _) z)
  rw [List.getD_eq_getElem?_getD, ey] at this
  rw [← q]; exact this
 ·obtain ⟨y, ey, q⟩ := Option.map_eq_some_iff.mp (List.getElem?_map ▸ ep)
  have := of_decide_eq_false (a.right i z (List.getElem?_eq_some_iff.mp ey).1)
  rw [List.getD_eq_getElem?_getD, ey] at this
  rw [← q]; exact this
theorem srt_rst {b : Int → Int} {w : List Int} {m : Nat} (nd : w.Nodup) : srt b (w.filter fun x => decide (x ∉ (srt b w).take m)) = (srt b w).drop m := by
 have nd2 := (srt_perm b w).nodup_iff.mpr nd
 rw [← filter_drop m nd2]
 have e : (w.filter fun x => decide (x ∉ (srt b w).take m)).map (fun x => (b x, x)) = (w.map fun x => (b x, x)).filter fun p => decide (p.2 ∉ (srt b w).take m) := by rw [List.filter_map]; rfl
 have : srt b (w.filter fun x => decide (x ∉ (srt b w).take m)) = (sortS ((w.map fun x => (b x, x)).filter fun p => decide (p.2 ∉ (srt b w).take m))).map Prod.snd := congrArg (fun l => (sortS l).map Prod.snd) e
 rw [this, ← sortS_filter, srt_pair, List.filter_map, List.map_map, show (Prod.snd ∘ fun x : Int => (b x, x)) = id from rfl, List.map_id]
 rfl
end Mine
namespace Mine
noncomputable def wv (N : Nat) (to : Nat → Nat) (ds : List Nat) : List (Int × Int) := (ds.filter fun i : Nat => decide (to i < N)).map fun i : Nat => ((i : Int), (to i : Int))
noncomputable def prdv (vs : List (Int × Int)) (p : Int) : List Int := (vs.filter fun x => decide (x.2 = p)).map Prod.fst
theorem prd_v (ws : List (Nat × Int × Int)) (p : Int) : prd ws p = prdv (ws.map Prod.snd) p := by unfold prd prdv; rw [List.filter_map, List.map_map]; rfl
theorem prdv_len {vs : List (Int × Int)} {p : Int} : (prdv vs p).length ≤ vs.length := by unfold prdv; rw [List.length_map]; exact List.length_filter_le _ _
theorem wv_len {N : Nat} {to : Nat → Nat} {ds : List Nat} : (wv N to ds).length ≤ ds.length := by unfold wv; rw [List.length_map]; exact List.length_filter_le _ _
theorem mem_wv {N : Nat} {to : Nat → Nat} {x : Int × Int} : x ∈ wv N to (List.range N) ↔ ∃ i, i < N ∧ to i < N ∧ x = ((i : Int), (to i : Int)) := by
 unfold wv
 constructor
 ·intro h
  obtain ⟨i, hi, e⟩ := List.mem_map.mp h
  obtain ⟨a, c⟩ := List.mem_filter.mp hi
  exact ⟨i, List.mem_range.mp a, of_decide_eq_true c, e.symm⟩
 ·rintro ⟨i, a, c, e⟩
  exact List.mem_map.mpr ⟨i, List.mem_filter.mpr ⟨List.mem_range.mpr a, decide_eq_true c⟩, e.symm⟩
theorem mem_prdv {vs : List (Int × Int)} {p x : Int} : x ∈ prdv vs p ↔ (x, p) ∈ vs := by
 unfold prdv
 constructor
 ·intro h
  obtain ⟨y, hy, e⟩ := List.mem_map.mp h
  obtain ⟨a, c⟩ := List.mem_filter.mp hy
  have c := of_decide_eq_true c
  rw [← e, ← c]; exact a
 ·exact fun h => List.mem_map.mpr ⟨(x, p), List.mem_filter.mpr ⟨h, decide_eq_true rfl⟩, rfl⟩
noncomputable def plN (N : Nat) : List Int := (List.range N).map fun i : Nat => (i : Int)
theorem mem_plN {N : Nat} {x : Int} : x ∈ plN N ↔ ∃ i, i < N ∧ x = (i : Int) := by
 unfold plN
 constructor
 ·intro h; obtain ⟨i, a, e⟩ := List.mem_map.mp h; exact ⟨i, List.mem_range.mp a, e.symm⟩
 ·rintro ⟨i, a, e⟩; exact List.mem_map.mpr ⟨i, List.mem_range.mpr a, e.symm⟩
theorem mem_adds6 {ws : List (Nat × Int × Int)} {ds : List Nat} {a : Int × List Int} : a ∈ adds6 ws ds ↔ ∃ p ∈ ds, a = ((p : Int), prd ws p) ∨ a = ((p : Int), []) := by
 unfold adds6
 rw [List.mem_flatMap]
 exact ⟨fun ⟨p, hp, h⟩ => ⟨p, hp, (List.mem_cons.mp h).imp id List.mem_singleton.mp⟩, fun ⟨p, hp, h⟩ => ⟨p, hp, h.elim (fun e => e ▸ .head _) fun e => e ▸ .tail _ (.head _)⟩⟩
theorem adds6_len {ws : List (Nat × Int × Int)} : ∀ ds : List Nat, (adds6 ws ds).length = 2 * ds.length
 | [] => rfl
 | d :: ds => by
  have := adds6_len (ws := ws) ds
  have e : adds6 ws (d :: ds) = [((d : Int), prd ws d), ((d : Int), [])] ++ adds6 ws ds := List.flatMap_cons
  rw [e, List.length_append, this]; show 2 + _ = 2 * (_ + 1); lia
theorem adds6_ok {N : Nat} {ws : List (Nat × Int × Int)} {rk : Int → Nat} (hN : N ≤ 100) (hw : ws.length ≤ 200) (hr : ∀ x ∈ ws.map Prod.snd, (∃ i, i < N ∧ x.1 = (i : Int)) ∧ rk x.1 < rk x.2) : Adds (adds6 ws (List.range N)) (plN N) rk := by
 refine ⟨by unfold plN; rw [List.length_map, List.length_range]; lia, by rw [adds6_len, List.length_range]; lia, fun a ha => ?_, fun a ha => ?_⟩
 ·obtain ⟨p, _, e | e⟩ := mem_adds6.mp ha
  ·rw [e, prd_v]; refine Nat.le_trans prdv_len ?_; rw [List.length_map]; exact hw
  ·rw [e]; exact Nat.zero_le _
 ·obtain ⟨p, hp, e⟩ := mem_adds6.mp ha
  have hp := List.mem_range.mp hp
  rcases e with e | e
  ·rw [e]
   refine ⟨mem_plN.mpr ⟨p, hp, rfl⟩, fun x hx => ?_⟩
   have z := hr _ (mem_prdv.mp (prd_v ws p ▸ hx))
   exact ⟨mem_plN.mpr z.1, z.2⟩
  ·rw [e]; exact ⟨mem_plN.mpr ⟨p, hp, rfl⟩, nofun⟩
end Mine
namespace Mine
noncomputable def celF6 : Nat → Option Nat := fun x => (cellIdx 1 g06_12.cells x).or (List.lookup x ([] : List (Nat × Nat)))
noncomputable def upn (cv : Nat → Option AV) (j : Nat) (v : AV) : Nat → Option AV := fun i => if i = j then some v else cv i
theorem upn_eq {cv : Nat → Option AV} {j : Nat} {v : AV} : upn cv j v j = some v := if_pos rfl
structure Lx (cv : Nat → Option AV) (fr : Fm) (h : Hp) : Prop where
 cel : fr.cel = celF6
 cells : ∀ j, 1 ≤ j → j ≤ 13 → h[j]? = some (.cell (cv j))
structure Hi (h h' : Hp) : Prop where
 len : h.length ≤ h'.length
 keep : ∀ (j : Nat) (o : AObj), 13 < j → h[j]? = some o → h'[j]? = some o
theorem Hi.refl {h : Hp} : Hi h h := ⟨Nat.le_refl _, fun _ _ _ e => e⟩
theorem Hi.tr {h h' h'' : Hp} (a : Hi h h') (b : Hi h' h'') : Hi h h'' := ⟨Nat.le_trans a.len b.len, fun j o l e => b.keep j o l (a.keep j o l e)⟩
theorem Hi.gr {h h' : Hp} (g : Gr h h') : Hi h h' := ⟨g.len, fun _ _ _ e => g.get e⟩
section
variable {cv : Nat → Option AV} {fr : Fm} {h h' : Hp} {n x j : Nat} {v : AV}
theorem Lx.gr (C : Lx cv fr h) (g : Gr h h') : Lx cv fr h' := ⟨C.cel, fun j a b => g.get (C.cells j a b)⟩
theorem Lx.fs (C : Lx cv fr h) {x : Nat} {v : AV} : Lx cv (fr.set x v) h := ⟨C.cel, C.cells⟩
theorem Lx.seto (C : Lx cv fr h) {k : Nat} {o : AObj} (a : 13 < k) : Lx cv fr (h.set k o) := ⟨C.cel, fun i b c => get_set (C.cells i b c) (Nat.ne_of_gt (Nat.lt_of_le_of_lt c a))⟩
theorem Lx.setc (C : Lx cv fr h) (a : 1 ≤ j ∧ j ≤ 13) : Lx (upn cv j v) fr (h.set j (.cell (some v))) :=
 ⟨C.cel, fun i b c => by
  unfold upn; by_cases e : i = j
  ·subst e; rw [if_pos rfl]; exact get_self (C.cells i b c)
  ·rw [if_neg e]; exact get_set (C.cells i b c) fun z => e z.symm⟩
theorem Lx.stc (C : Lx cv fr h) (g : Gr h h') (hj : celF6 x = some j) (a : 1 ≤ j ∧ j ≤ 13) {Q : Nat → Prop} (q : Q j) : StC fr h' x Q := .mk (by rw [C.cel]; exact hj) ((C.gr g).cells j a.1 a.2) q
theorem Lx.put (C : Lx cv fr h) (g : Gr h h') (a : 1 ≤ j ∧ j ≤ 13) : Lx (upn cv j v) fr (h'.set j (.cell (some v))) ∧ Hi h (h'.set j (.cell (some v))) :=
 ⟨(C.gr g).setc a, by rw [List.length_set]; exact g.len, fun i o l e => get_set (g.get e) fun z => Nat.lt_irrefl _ (Nat.lt_of_le_of_lt a.2 (z ▸ l))⟩
theorem Lx.ev (C : Lx cv fr h) {Q : AV → Hp → Prop} (hj : celF6 x = some j) (a : 1 ≤ j ∧ j ≤ 13) (e : cv j = some v) (q : Q v h) : (go (n + 1)).ev (.cel x) fr h Q :=
 eCel (by rw [C.cel]; exact hj) (by rw [C.cells j a.1 a.2, e]) q
theorem Lx.evf {fr' : Fm} {h0 : Hp} {free : List Nat} (C : Lx cv fr h) (ef : fr'.cel = (compF [] free fr h0).cel) {Q : AV → Hp → Prop} (hm : free.contains x = true) (hj : celF6 x = some j) (a : 1 ≤ j ∧ j ≤ 13) (e : cv j = some v) (q : Q v h) : (go (n + 1)).ev (.cel x) fr' h Q := by
 refine eCel ?_ (by rw [C.cells j a.1 a.2, e]) q
 rw [ef]
 show Option.or none (if free.contains x then fr.cel x else none) = _
 rw [if_pos hm, C.cel, hj]; rfl
end
noncomputable def filled6 (ns : List Int) : List Int := ns ++ [0, -7, 1, -3, 2, 20, 3, 24].drop ns.length
theorem filled6_len (ns : List Int) (h : ns.length ≤ 63) : 8 ≤ (filled6 ns).length ∧ (filled6 ns).length ≤ 63 := by
 unfold filled6
 rw [List.length_append, List.length_drop]
 show 8 ≤ ns.length + (8 - ns.length) ∧ ns.length + (8 - ns.length) ≤ 63
 lia
section
variable {n : Nat} {Q : AFlow → Fm → Hp → Prop}
theorem segA {ns : List Int} (hn : ns.length ≤ 63)
  (q : ∀ cv fr h k hands width, Lx cv fr h → cv 1 = some (.int hands) → cv 2 = some (.int width) → 1 ≤ hands ∧ hands ≤ 8 → 0 ≤ width ∧ width ≤ 21 → fr.loc 52 = some (.ref k) → h[k]? = some (.list ((filled6 ns).map .int)) → 13 < k → exStep (go (n + 20)) (g06_12b.drop 4) fr h Q) :
  exStep (go (n + 20)) g06_12b (enterF g06_12 [] [(61, .ref 0)] [.ro (ns.map .int)]).1 (enterF g06_12 [] [(61, .ref 0)] [.ro (ns.map .int)]).2 Q := by
 have C0 : Lx (fun _ => none) (enterF g06_12 [] [(61, .ref 0)] [.ro (ns.map .int)]).1 (enterF g06_12 [] [(61, .ref 0)] [.ro (ns.map .int)]).2 := by
  refine ⟨rfl, fun j a b => ?_⟩
  match j, a, b with
  | 1, _, _ => rfl
  | 2, _, _ => rfl
  | 3, _, _ => rfl
  | 4, _, _ => rfl
  | 5, _, _ => rfl
  | 6, _, _ => rfl
  | 7, _, _ => rfl
  | 8, _, _ => rfl
  | 9, _, _ => rfl
  | 10, _, _ => rfl
  | 11, _, _ => rfl
  | 12, _, _ => rfl
  | 13, _, _ => rfl
 have e0 : (enterF g06_12 [] [(61, AV.ref 0)] [.ro (ns.map .int)]).2[0]? = some (.ro (ns.map .int)) := rfl
 have l0 : (enterF g06_12 [] [(61, AV.ref 0)] [.ro (ns.map .int)]).2.length = 14 := rfl
 have f61 : (enterF g06_12 [] [(61, AV.ref 0)] [.ro (ns.map .int)]).1.loc 61 = some (.ref 0) := rfl
 generalize (enterF g06_12 [] [(61, AV.ref 0)] [.ro (ns.map .int)]).1 = fr at *
 generalize (enterF g06_12 [] [(61, AV.ref 0)] [.ro (ns.map .int)]).2 = h at *
 have sl : Slc [AV.int 0, .int (-7), .int 1, .int (-3), .int 2, .int 20, .int 3, .int 24] (.int (ns.map AV.int).length) .none .none (([0, -7, 1, -3, 2, 20, 3, 24].drop ns.length).map .int) := by rw [List.length_map, List.map_drop]; exact slcLo
 refine xAsg <| eBin <| eLoc f61 <| eSlice <| eList <| vCons <| eInt <| vCons <| eNeg <| eInt ⟨7, rfl, vCons <| eInt <| vCons <| eNeg <| eInt ⟨3, rfl, vCons <| eInt <| vCons <| eInt <| vCons <| eInt <| vCons <| eInt <| vNil <| ePrim <| vCons <| eLoc f61 <| vNil (.len _ (.ro (get_app e0)) (eNone <| eNone <| .mk tup_at (by decide) sl ?_))⟩⟩
 have g2 := fun t : Hp => (Kp.refl (F := fun _ => False) (h := h)).more (t := t)
 refine oCat (xs := ns.map .int) (.ro (get_app (get_app e0))) (.list tup_at) (by rw [List.length_map, List.length_map, List.length_drop]; show _ + (8 - _) ≤ _; lia) ?_
 rw [show ns.map AV.int ++ ([0, -7, 1, -3, 2, 20, 3, 24].drop ns.length).map AV.int = (filled6 ns).map .int from List.map_append.symm]
 have g3 : Gr h (h ++ [AObj.list [.int 0, .int (-7), .int 1, .int (-3), .int 2, .int 20, .int 3, .int 24]] ++ [AObj.list (([0, -7, 1, -3, 2, 20, 3, 24].drop ns.length).map .int)] ++ [AObj.list ((filled6 ns).map .int)]) := Kp.refl.more.more.more
 have e3 : (h ++ [AObj.list [.int 0, .int (-7), .int 1, .int (-3), .int 2, .int 20, .int 3, .int 24]] ++ [AObj.list (([0, -7, 1, -3, 2, 20, 3, 24].drop ns.length).map .int)] ++ [AObj.list ((filled6 ns).map .int)])[(h ++ [AObj.list [.int 0, .int (-7), .int 1, .int (-3), .int 2, .int 20, .int 3, .int 24]] ++ [AObj.list (([0, -7, 1, -3, 2, 20, 3, 24].drop ns.length).map .int)]).length]? = some (.list ((filled6 ns).map .int)) := tup_at
 have lk : 13 < (h ++ [AObj.list [.int 0, .int (-7), .int 1, .int (-3), .int 2, .int 20, .int 3, .int 24]] ++ [AObj.list (([0, -7, 1, -3, 2, 20, 3, 24].drop ns.length).map .int)]).length := by rw [List.length_append, List.length_append, l0]; exact Nat.lt_of_lt_of_le (by decide : 13 < 14) (Nat.le_trans (Nat.le_add_right _ _) (Nat.le_add_right _ _))
 generalize (h ++ [AObj.list [.int 0, .int (-7), .int 1, .int (-3), .int 2, .int 20, .int 3, .int 24]] ++ [AObj.list (([0, -7, 1, -3, 2, 20, 3, 24].drop ns.length).map .int)]).length = k at *
 generalize h ++ [AObj.list [.int 0, .int (-7), .int 1, .int (-3), .int 2, .int 20, .int 3, .int 24]] ++ [AObj.list (([0, -7, 1, -3, 2, 20, 3, 24].drop ns.length).map .int)] ++ [AObj.list ((filled6 ns).map .int)] = h1 at *
 have C1 := C0.gr g3
 refine xAsg <| ePrim <| vCons <| eLoc rfl <| vNil (.sum (filled6 ns) (lints_l e3) ?_)
 generalize (filled6 ns).sum = s
 have C2 := (C1.fs (x := 52) (v := .ref k)).fs (x := 85) (v := .int s)
 refine xAsgC <| eBin <| eBin <| eLoc rfl <| eInt <| oMod (by decide) <| eInt <| oAdd <| C2.stc Kp.refl (j := 1) rfl (by decide) ?_
 have p1 := C2.put (v := .int (s.fmod 8 + 1)) Kp.refl (j := 1) (by decide)
 have e4 := p1.2.keep _ _ lk e3
 have m8 : ∀ s : Int, 0 ≤ s.fmod 8 ∧ s.fmod 8 ≤ 7 := fun s => by
  rw [Int.fmod_eq_emod_of_nonneg _ (by decide)]; lia
 have hm := m8 s
 have hw := m8 (s.fdiv 8)
 refine xAsgC <| eBin <| eBin <| eBin <| eLoc rfl <| eInt <| oFdiv (by decide) <| eInt <| oMod (by decide) <| eInt <| oMul ⟨hw.1, by lia⟩ <| p1.1.stc Kp.refl (j := 2) rfl (by decide) ?_
 have p2 := p1.1.put (v := .int ((s.fdiv 8).fmod 8 * 3)) Kp.refl (j := 2) (by decide)
 exact q _ _ _ k (s.fmod 8 + 1) ((s.fdiv 8).fmod 8 * 3) p2.1 rfl rfl (by lia) (by lia) rfl (p2.2.keep _ _ lk e4) lk
end
end Mine
namespace Mine
theorem every2_map {α β : Type} {f : α → β} : ∀ xs : List α, every2 (xs.map f) = (every2 xs).map f
 | [] => rfl
 | [_] => rfl
 | _ :: _ :: r => congrArg _ (every2_map r)
theorem every2_length {α : Type} : ∀ xs : List α, (every2 xs).length = (xs.length + 1) / 2
 | [] => by simp [every2]
 | [_] => by simp [every2]
 | x :: y :: r => by
  have := every2_length r
  show (every2 r).length + 1 = (r.length + 1 + 1 + 1) / 2
  lia
structure SB (N : Nat) (row sec : List Int) (hands width : Int) (cv : Nat → Option AV) (fr : Fm) (h : Hp) (kR kP kS : Nat) : Prop where
 cx : Lx cv fr h
 v1 : cv 1 = some (.int hands)
 v2 : cv 2 = some (.int width)
 v3 : cv 3 = some (.ref kR)
 v4 : cv 4 = some (.int (N : Int))
 v5 : cv 5 = some (.ref kP)
 v6 : cv 6 = some (.ref kS)
 oR : h[kR]? = some (.list (row.map .int))
 oP : h[kP]? = some (.list ((List.range N).map fun i : Nat => .int (i : Int)))
 oS : h[kS]? = some (.list (sec.map .int))
 lo : 13 < kR ∧ 13 < kP ∧ 13 < kS
 pw : row.Pairwise (· ≤ ·)
 rl : row.length = N
 sl : N ≤ sec.length
 nl : 4 ≤ N ∧ N ≤ 32
 hd : 1 ≤ hands ∧ hands ≤ 8
 wd : 0 ≤ width ∧ width ≤ 21
theorem SB.gr {N : Nat} {row sec : List Int} {hands width : Int} {cv : Nat → Option AV} {fr : Fm} {h h' : Hp} {kR kP kS : Nat} (B : SB N row sec hands width cv fr h kR kP kS) (g : Gr h h') : SB N row sec hands width cv fr h' kR kP kS :=
 ⟨B.cx.gr g, B.v1, B.v2, B.v3, B.v4, B.v5, B.v6, g.get B.oR, g.get B.oP, g.get B.oS, B.lo, B.pw, B.rl, B.sl, B.nl, B.hd, B.wd⟩
theorem SB.put {N : Nat} {row sec : List Int} {hands width : Int} {cv : Nat → Option AV} {fr : Fm} {h : Hp} {kR kP kS j : Nat} {v : AV} (B : SB N row sec hands width cv fr h kR kP kS) (a : 7 ≤ j ∧ j ≤ 13) : SB N row sec hands width (upn cv j v) fr (h.set j (.cell (some v))) kR kP kS :=
 have z := B.cx.put (v := v) Kp.refl (j := j) ⟨Nat.le_trans (by decide) a.1, a.2⟩
 have n : ∀ {i}, i ≤ 6 → i ≠ j := fun z e => Nat.lt_irrefl _ (Nat.lt_of_le_of_lt (e ▸ z) (Nat.lt_of_lt_of_le (by decide) a.1))
 ⟨z.1, (if_neg (n (by decide))).trans B.v1, (if_neg (n (by decide))).trans B.v2, (if_neg (n (by decide))).trans B.v3, (if_neg (n (by decide))).trans B.v4, (if_neg (n (by decide))).trans B.v5, (if_neg (n (by decide))).trans B.v6, z.2.keep _ _ B.lo.1 B.oR, z.2.keep _ _ B.lo.2.1 B.oP, z.2.keep _ _ B.lo.2.2 B.oS, B.lo, B.pw, B.rl, B.sl, B.nl, B.hd, B.wd⟩
section
variable {n : Nat} {Q : AFlow → Fm → Hp → Prop}
theorem segB {nums : List Int} {cv : Nat → Option AV} {fr : Fm} {h : Hp} {k : Nat} {hands width : Int} (C : Lx cv fr h) (v1 : cv 1 = some (.int hands)) (v2 : cv 2 = some (.int width)) (hd : 1 ≤ hands ∧ hands ≤ 8) (wd : 0 ≤ width ∧ width ≤ 21) (f52 : fr.loc 52 = some (.ref k)) (ok : h[k]? = some (.list (nums.map .int))) (lk : 13 < k) (hn : 8 ≤ nums.length ∧ nums.length ≤ 63)
  (q : ∀ N row sec cv fr h kR kP kS, SB N row sec hands width cv fr h kR kP kS → exStep (go (n + 20)) (g06_12b.drop 8) fr h Q) : exStep (go (n + 20)) (g06_12b.drop 4) fr h Q := by
 have ln : (nums.map AV.int).length ≤ 100000 := by rw [List.length_map]; lia
 have lh : 13 < h.length := Nat.lt_trans lk (lt_of_get ok)
 have e2 := every2_length nums
 refine xAsgC <| ePrim <| vCons <| eSlice <| eLoc f52 <| eInt <| eNone <| eInt <| .mk ok ln (.two (Int.le_refl 0)) <| vNil ?_
 rw [show every2 ((nums.map AV.int).drop (0 : Int).toNat) = (every2 nums).map .int from every2_map nums]
 refine .sorted (every2 nums) (lints_l tup_at) (by lia) fun row hp hs => ?_
 have rl : row.length = (nums.length + 1) / 2 := hp.length_eq.trans e2
 have g1 : Gr h (h ++ [AObj.list ((every2 nums).map .int)] ++ [AObj.list (row.map .int)]) := Kp.refl.more.more
 have oR : (h ++ [AObj.list ((every2 nums).map .int)] ++ [AObj.list (row.map .int)])[(h ++ [AObj.list ((every2 nums).map .int)]).length]? = some (.list (row.map .int)) := tup_at
 have lR : 13 < (h ++ [AObj.list ((every2 nums).map .int)]).length := Nat.lt_of_lt_of_le lh (by rw [List.length_append]; exact Nat.le_add_right _ _)
 generalize h ++ [AObj.list ((every2 nums).map .int)] ++ [AObj.list (row.map .int)] = h1 at *
 generalize (h ++ [AObj.list ((every2 nums).map .int)]).length = kR at *
 refine C.stc g1 (j := 3) rfl (by decide) ?_
 have p1 := C.put (v := .ref kR) g1 (j := 3) (by decide)
 have ok1 := p1.2.keep _ _ lk ok
 have oR := get_set (o := .cell (some (.ref kR))) oR (Nat.ne_of_lt (Nat.lt_trans (by decide : 3 < 13) lR))
 have lh1 : h.length ≤ (h1.set 3 (.cell (some (.ref kR)))).length := p1.2.len
 generalize h1.set 3 (.cell (some (.ref kR))) = h2 at *
 generalize hN : (nums.length + 1) / 2 = N at *
 have lN : 4 ≤ N ∧ N ≤ 32 := by lia
 refine xAsgC <| ePrim <| vCons <| p1.1.ev rfl (by decide) upn_eq <| vNil (.len _ (seq_l oR) <| p1.1.stc Kp.refl (j := 4) rfl (by decide) ?_)
 rw [List.length_map, rl]
 have p2 := p1.1.put (v := .int (N : Int)) Kp.refl (j := 4) (by decide)
 have ok2 := p2.2.keep _ _ lk ok1
 have oR2 := p2.2.keep _ _ lR oR
 have lh2 := p2.2.len
 generalize h2.set 4 (.cell (some (.int (N : Int)))) = h3 at *
 refine xAsgC <| ePrim <| vCons <| p2.1.ev rfl (by decide) upn_eq <| vNil (.listRange (Int.natCast_nonneg N) (by lia) <| p2.1.stc Kp.refl.more (j := 5) rfl (by decide) ?_)
 show exStep _ _ _ ((h3 ++ [AObj.list ((List.range N).map fun i : Nat => .int (i : Int))]).set 5 _) _
 have g3 : Gr h3 (h3 ++ [AObj.list ((List.range N).map fun i : Nat => .int (i : Int))]) := Kp.refl.more
 have p3 := p2.1.put (v := .ref h3.length) g3 (j := 5) (by decide)
 have lP : 13 < h3.length := Nat.lt_of_lt_of_le lh (Nat.le_trans lh1 lh2)
 have oP : ((h3 ++ [AObj.list ((List.range N).map fun i : Nat => .int (i : Int))]).set 5 (.cell (some (.ref h3.length))))[h3.length]? = _ := get_set tup_at (Nat.ne_of_lt (Nat.lt_trans (by decide : 5 < 13) lP))
 have ok3 := p3.2.keep _ _ lk ok2
 have oR3 := p3.2.keep _ _ lR oR2
 have lh3 := p3.2.len
 generalize hh4 : (h3 ++ [AObj.list ((List.range N).map fun i : Nat => .int (i : Int))]).set 5 (.cell (some (.ref h3.length))) = h4 at *
 generalize h3.length = kP at *
 have es : every2 ((nums.map AV.int).drop (1 : Int).toNat) = (every2 (nums.drop 1)).map .int := by rw [← every2_map, List.map_drop]; rfl
 have l2 : (every2 (nums.drop 1)).length = nums.length / 2 := by rw [every2_length, List.length_drop]; lia
 refine xAsgC <| eBin <| eSlice <| eLoc f52 <| eInt <| eNone <| eInt <| .mk ok3 ln (.two (by decide)) <| eList <| vCons <| eInt <| vNil ?_
 rw [es]
 refine oCat (.list (get_app tup_at)) (.list tup_at) (by rw [List.length_map]; show _ + 1 ≤ _; lia) ?_
 have g5 : Gr h4 (h4 ++ [AObj.list ((every2 (nums.drop 1)).map .int)] ++ [AObj.list [.int 0]] ++ [AObj.list ((every2 (nums.drop 1)).map .int ++ [.int 0])]) := Kp.refl.more.more.more
 have oS : (h4 ++ [AObj.list ((every2 (nums.drop 1)).map .int)] ++ [AObj.list [.int 0]] ++ [AObj.list ((every2 (nums.drop 1)).map .int ++ [.int 0])])[(h4 ++ [AObj.list ((every2 (nums.drop 1)).map .int)] ++ [AObj.list [.int 0]]).length]? = some (.list ((every2 (nums.drop 1) ++ [0]).map .int)) := by rw [List.map_append]; exact tup_at
 have lS : 13 < (h4 ++ [AObj.list ((every2 (nums.drop 1)).map .int)] ++ [AObj.list [.int 0]]).length := by
  rw [List.length_append, List.length_append]
  exact Nat.lt_of_lt_of_le (Nat.lt_of_lt_of_le lP lh3) (Nat.le_trans (Nat.le_add_right _ _) (Nat.le_add_right _ _))
 generalize (h4 ++ [AObj.list ((every2 (nums.drop 1)).map .int)] ++ [AObj.list [.int 0]]).length = kS at *
 generalize h4 ++ [AObj.list ((every2 (nums.drop 1)).map .int)] ++ [AObj.list [.int 0]] ++ [AObj.list ((every2 (nums.drop 1)).map .int ++ [.int 0])] = h5 at *
 refine p3.1.stc g5 (j := 6) rfl (by decide) ?_
 have p4 := p3.1.put (v := .ref kS) g5 (j := 6) (by decide)
 exact q N row (every2 (nums.drop 1) ++ [0]) _ _ _ kR kP kS ⟨p4.1, v1, v2, rfl, rfl, rfl, rfl, p4.2.keep _ _ lR oR3, p4.2.keep _ _ lP oP, get_set oS (Nat.ne_of_lt (Nat.lt_trans (by decide : 6 < 13) lS)), ⟨lR, lP, lS⟩, hs, rl, by rw [List.length_append, l2]; show N ≤ _ + 1; lia, lN, hd, wd⟩
end
end Mine
namespace Mine
noncomputable def Tl (N : Nat) (to : Nat → Nat) : List Int := (List.range N).map fun i => (to i : Int)
theorem Tl_len {N : Nat} {to : Nat → Nat} : (Tl N to).length = N := by unfold Tl; rw [List.length_map, List.length_range]
theorem gn_map {N i : Nat} {f : Nat → Int} (h : i < N) : gn ((List.range N).map f) i = f i := by
 unfold gn
 rw [List.getD_eq_getElem?_getD, List.getElem?_map, List.getElem?_range h]; rfl
structure SQ (N : Nat) (to : Nat → Nat) (dues : List Int) (hands : Int) (cv : Nat → Option AV) (fr : Fm) (h : Hp) (kP kD kT : Nat) : Prop where
 cx : Lx cv fr h
 v1 : cv 1 = some (.int hands)
 v4 : cv 4 = some (.int (N : Int))
 v5 : cv 5 = some (.ref kP)
 v8 : cv 8 = some (.ref kD)
 v9 : cv 9 = some (.ref kT)
 oP : h[kP]? = some (.list ((List.range N).map fun i : Nat => .int (i : Int)))
 oD : h[kD]? = some (.list (dues.map .int))
 oT : h[kT]? = some (.list ((Tl N to).map .int))
 lo : 13 < kP ∧ 13 < kD ∧ 13 < kT
 dl : dues.length = N
 up : ∀ i, i < N → i < to i ∧ to i ≤ N
 nl : 4 ≤ N ∧ N ≤ 32
 hd : 1 ≤ hands ∧ hands ≤ 8
section
variable {N : Nat} {to : Nat → Nat} {dues : List Int} {hands : Int} {cv : Nat → Option AV} {fr : Fm} {h h' : Hp} {kP kD kT j : Nat} {v : AV} (B : SQ N to dues hands cv fr h kP kD kT)
include B
theorem SQ.gr (g : Gr h h') : SQ N to dues hands cv fr h' kP kD kT := ⟨B.cx.gr g, B.v1, B.v4, B.v5, B.v8, B.v9, g.get B.oP, g.get B.oD, g.get B.oT, B.lo, B.dl, B.up, B.nl, B.hd⟩
theorem SQ.fs {x : Nat} : SQ N to dues hands cv (fr.set x v) h kP kD kT := ⟨B.cx.fs, B.v1, B.v4, B.v5, B.v8, B.v9, B.oP, B.oD, B.oT, B.lo, B.dl, B.up, B.nl, B.hd⟩
theorem SQ.put (a : 10 ≤ j ∧ j ≤ 13) : SQ N to dues hands (upn cv j v) fr (h.set j (.cell (some v))) kP kD kT :=
 have z := B.cx.put (v := v) Kp.refl (j := j) ⟨Nat.le_trans (by decide) a.1, a.2⟩
 have n : ∀ {i}, i ≤ 9 → i ≠ j := fun z e => Nat.lt_irrefl _ (Nat.lt_of_le_of_lt (e ▸ z) (Nat.lt_of_lt_of_le (by decide) a.1))
 ⟨z.1, (if_neg (n (by decide))).trans B.v1, (if_neg (n (by decide))).trans B.v4, (if_neg (n (by decide))).trans B.v5, (if_neg (n (by decide))).trans B.v8, (if_neg (n (by decide))).trans B.v9, z.2.keep _ _ B.lo.1 B.oP, z.2.keep _ _ B.lo.2.1 B.oD, z.2.keep _ _ B.lo.2.2 B.oT, B.lo, B.dl, B.up, B.nl, B.hd⟩
theorem SQ.hi {cv' : Nat → Option AV} (z : Hi h h') (C : Lx cv' fr h') (e : ∀ i, i ≤ 9 → cv' i = cv i) : SQ N to dues hands cv' fr h' kP kD kT :=
 ⟨C, (e 1 (by decide)).trans B.v1, (e 4 (by decide)).trans B.v4, (e 5 (by decide)).trans B.v5, (e 8 (by decide)).trans B.v8, (e 9 (by decide)).trans B.v9, z.keep _ _ B.lo.1 B.oP, z.keep _ _ B.lo.2.1 B.oD, z.keep _ _ B.lo.2.2 B.oT, B.lo, B.dl, B.up, B.nl, B.hd⟩
end
noncomputable def gf (sec : List Int) (i : Nat) : Int := ((gn sec i).natAbs : Int).fdiv 2 + (i : Int).fmod 2
noncomputable def df (sec : List Int) (width : Int) (i : Nat) : Int := if width = 0 then gn sec i else (gn sec i).fmod width
inductive TJ (h : Hp) (row gaps : List Int) (ds : List Nat) (h' : Hp) (acc : List AV) : Prop | mk (T : List Int) (e : acc = T.map .int) (eh : h' = h) (len : T.length = ds.length) (nx : ∀ i, i < ds.length → Nx row gaps i (gn T i)) : TJ h row gaps ds h' acc
section
variable {n : Nat} {Q : AFlow → Fm → Hp → Prop} {N : Nat} {row sec : List Int} {hands width : Int} {cv : Nat → Option AV} {fr : Fm} {h : Hp} {kR kP kS : Nat} (B : SB N row sec hands width cv fr h kR kP kS)
include B
omit B in
theorem hitsP : (((List.range N).map fun i : Nat => AV.int (i : Int)).map Item.one) = (List.range N).map fun i : Nat => .one (.int (i : Int)) := List.map_map
omit B in
theorem trueF {α : Type} {l : List α} : l.filter (fun _ => true) = l := List.filter_eq_self.mpr fun _ _ => rfl
theorem gaps_spec {Q : AV → Hp → Prop} (q : Q (.ref h.length) (h ++ [.list (((List.range N).map (gf sec)).map .int)])) :
  (go (n + 20)).ev (.comp (.bin .add (.bin .fdiv (.prim .abs [(.idx (.cel 89) (.loc 24))]) (.int 2)) (.bin .mod (.loc 24) (.int 2))) (.mk (.one (.loc 24)) (.seq (.cel 62)) []) [] [] [89]) fr h Q := by
 refine eComp <| src_seq <| B.cx.ev rfl (by decide) B.v5 <| .mk B.oP rfl ?_
 refine ckP (n := n + 19) (fun i : Nat => .one (.int (i : Int))) (List.range N) (fun _ => true) (fun i => .int (gf sec i)) hitsP B.oP (by rw [List.length_range]; have := B.nl; lia) (fun i hi fr' ef => .mk ⟨rfl, rfl, ⟨rfl, rfl⟩, fun _ => ?_⟩) ?_
 ·have ef : (fr'.set 24 (.int (i : Int))).cel = _ := ef
  exact eBin <| eBin <| ePrim <| vCons <| eIdx <| B.cx.evf ef rfl rfl (by decide) B.v6 <| eLoc rfl <| gIx B.oS (Nat.lt_of_lt_of_le (List.mem_range.mp hi) B.sl) <| vNil (.abs <| eInt <| oFdiv (by decide) <| eBin <| eLoc rfl <| eInt <| oMod (by decide) <| oAdd ⟨rfl, rfl⟩)
 ·rw [trueF]; rw [List.map_map] at q; exact q
theorem dues_spec {Q : AV → Hp → Prop} (q : Q (.ref h.length) (h ++ [.list (((List.range N).map (df sec width)).map .int)])) :
  (go (n + 20)).ev (.comp (.ite (.cmp .eq (.cel 87) (.int 0)) (.idx (.cel 89) (.loc 24)) (.bin .mod (.idx (.cel 89) (.loc 24)) (.cel 87))) (.mk (.one (.loc 24)) (.seq (.cel 62)) []) [] [] [89, 87]) fr h Q := by
 refine eComp <| src_seq <| B.cx.ev rfl (by decide) B.v5 <| .mk B.oP rfl ?_
 refine ckP (n := n + 19) (fun i : Nat => .one (.int (i : Int))) (List.range N) (fun _ => true) (fun i => .int (df sec width i)) hitsP B.oP (by rw [List.length_range]; have := B.nl; lia) (fun i hi fr' ef => .mk ⟨rfl, rfl, ⟨rfl, rfl⟩, fun _ => ?_⟩) ?_
 ·have ef : (fr'.set 24 (.int (i : Int))).cel = _ := ef
  have li := Nat.lt_of_lt_of_le (List.mem_range.mp hi) B.sl
  refine eIte <| eCmp <| B.cx.evf ef rfl rfl (by decide) B.v2 <| eInt <| cEq ⟨_, rfl, ?_⟩
  unfold df
  by_cases c : width = 0
  ·rw [decide_eq_true c, if_pos c]
   show (if true = true then _ else _)
   rw [if_pos rfl]
   exact eIdx <| B.cx.evf ef rfl rfl (by decide) B.v6 <| eLoc rfl <| gIx B.oS li ⟨rfl, rfl⟩
  ·rw [decide_eq_false c, if_neg c]
   show (if false = true then _ else _)
   rw [if_neg Bool.false_ne_true]
   exact eBin <| eIdx <| B.cx.evf ef rfl rfl (by decide) B.v6 <| eLoc rfl <| gIx B.oS li <| B.cx.evf ef rfl rfl (by decide) B.v2 <| oMod (by have := B.wd; lia) ⟨rfl, rfl⟩
 ·rw [trueF]; rw [List.map_map] at q; exact q
theorem to_spec {Q : AV → Hp → Prop} {gaps : List Int} {kG : Nat} (v7 : cv 7 = some (.ref kG)) (oG : h[kG]? = some (.list (gaps.map .int))) (gl : N ≤ gaps.length) (q : ∀ T : List Int, T.length = N → (∀ i, i < N → Nx row gaps i (gn T i)) → Q (.ref h.length) (h ++ [.list (T.map .int)])) :
  (go (n + 20)).ev (.comp (.call (.fn 11) [(.cel 64), (.bin .add (.idx (.cel 64) (.loc 24)) (.idx (.cel 76) (.loc 24))), (.bin .add (.loc 24) (.int 1))] [] [] []) (.mk (.one (.loc 24)) (.seq (.cel 62)) []) [] [] [76, 64]) fr h Q := by
 refine eComp <| src_seq <| B.cx.ev rfl (by decide) B.v5 <| .mk B.oP rfl ?_
 refine ckD (n := n + 19) (fun i : Nat => .one (.int (i : Int))) (List.range N) (TJ h row gaps) hitsP ⟨[], rfl, List.append_nil _, rfl, nofun⟩ (fun ds h' acc j => TJ.casesOn j fun T _ eh _ _ => eh ▸ B.oP) (fun ds i rs fr' h' acc e ef j => TJ.casesOn j fun T e2 eh len nx => .mk ?_) fun h' acc j => TJ.casesOn j fun T e2 eh len nx => e2 ▸ eh ▸ q T (len.trans List.length_range) fun i l => nx i (List.length_range.symm ▸ l)
 obtain ⟨ei, li⟩ := range_split e
 subst ei eh
 have ef : (fr'.set 24 (.int (ds.length : Int))).cel = _ := ef
 have lr : ds.length < row.length := B.rl ▸ li
 have nl := B.nl
 show (go (n + 19)).ev _ _ _ _
 refine eCall <| eFn <| vCons <| B.cx.evf ef rfl rfl (by decide) B.v3 <| vCons <| eBin <| eIdx <| B.cx.evf ef rfl rfl (by decide) B.v3 <| eLoc rfl <| gIx B.oR lr <| eIdx <| B.cx.evf ef rfl rfl (by decide) v7 <| eLoc rfl <| gIx oG (Nat.lt_of_lt_of_le li gl) <| oAdd <| vCons <| eBin <| eLoc rfl <| eInt <| oAdd <| vNil <| vNil ?_
 refine f11_plain (n := n + 11) (lo := ds.length + 1) B.oR B.pw lr (Nat.lt_of_le_of_lt (B.rl ▸ nl.2) (by decide)) fun r a => ⟨by rw [e2, List.length_map, len]; lia, ef, T ++ [(r : Int)], by rw [e2, List.map_append]; rfl, rfl, by rw [List.length_append, List.length_append, len]; rfl, fun i l => ?_⟩
 rw [List.length_append] at l
 rcases Nat.lt_or_eq_of_le (Nat.le_of_lt_succ l) with y | y
 ·rw [gn_app (len.symm ▸ y)]; exact nx i y
 ·rw [y, ← len, gn_last, len]
  exact ⟨r, rfl, a.l0, a.l1, fun k l0 l1 => of_decide_eq_true (a.left k l0 l1), fun l => Int.not_lt.mp (of_decide_eq_false (a.right r (Nat.le_refl _) l))⟩
theorem segC (q : ∀ to dues cv fr h kP kD kT, SQ N to dues hands cv fr h kP kD kT → exStep (go (n + 20)) (g06_12b.drop 12) fr h Q) : exStep (go (n + 20)) (g06_12b.drop 8) fr h Q := by
 have lh : ∀ {h h' : Hp} {cv fr kR kP kS}, SB N row sec hands width cv fr h kR kP kS → 13 < h.length := fun B => Nat.lt_trans B.lo.1 (lt_of_get B.oR)
 have gl : ((List.range N).map (gf sec)).length = N := by rw [List.length_map, List.length_range]
 have dl : ((List.range N).map (df sec width)).length = N := by rw [List.length_map, List.length_range]
 refine xAsgC <| gaps_spec B <| B.cx.stc Kp.refl.more (j := 7) rfl (by decide) ?_
 have lG := lh (h' := h) B
 have oG : ((h ++ [AObj.list (((List.range N).map (gf sec)).map .int)]).set 7 (.cell (some (.ref h.length))))[h.length]? = _ := get_set tup_at (Nat.ne_of_lt (Nat.lt_trans (by decide : 7 < 13) lG))
 have B1 := (B.gr (h' := h ++ [.list (((List.range N).map (gf sec)).map .int)]) Kp.refl.more).put (v := .ref h.length) (j := 7) (by decide)
 have v7 : upn cv 7 (.ref h.length) 7 = some (.ref h.length) := upn_eq
 generalize (h ++ [AObj.list (((List.range N).map (gf sec)).map .int)]).set 7 (.cell (some (.ref h.length))) = h1 at *
 generalize upn cv 7 (.ref h.length) = cv1 at *
 generalize h.length = kG at *
 refine xAsgC <| dues_spec B1 <| B1.cx.stc Kp.refl.more (j := 8) rfl (by decide) ?_
 have lD := lh (h' := h) B1
 have oD : ((h1 ++ [AObj.list (((List.range N).map (df sec width)).map .int)]).set 8 (.cell (some (.ref h1.length))))[h1.length]? = _ := get_set tup_at (Nat.ne_of_lt (Nat.lt_trans (by decide : 8 < 13) lD))
 have oG : ((h1 ++ [AObj.list (((List.range N).map (df sec width)).map .int)]).set 8 (.cell (some (.ref h1.length))))[kG]? = _ := get_set (get_app oG) (Nat.ne_of_lt (Nat.lt_trans (by decide : 8 < 13) lG))
 have B2 := (B1.gr (h' := h1 ++ [.list (((List.range N).map (df sec width)).map .int)]) Kp.refl.more).put (v := .ref h1.length) (j := 8) (by decide)
 have v7 : upn cv1 8 (.ref h1.length) 7 = some (.ref kG) := v7
 have v8 : upn cv1 8 (.ref h1.length) 8 = some (.ref h1.length) := upn_eq
 generalize (h1 ++ [AObj.list (((List.range N).map (df sec width)).map .int)]).set 8 (.cell (some (.ref h1.length))) = h2 at *
 generalize upn cv1 8 (.ref h1.length) = cv2 at *
 generalize h1.length = kD at *
 refine xAsgC <| to_spec B2 v7 oG (Nat.le_of_eq gl.symm) fun T lT nx => B2.cx.stc Kp.refl.more (j := 9) rfl (by decide) ?_
 have lT' := lh (h' := h) B2
 have n9 : ∀ {k}, 13 < k → 9 ≠ k := fun l => Nat.ne_of_lt (Nat.lt_trans (by decide : 9 < 13) l)
 have oT : ((h2 ++ [AObj.list (T.map .int)]).set 9 (.cell (some (.ref h2.length))))[h2.length]? = _ := get_set tup_at (n9 lT')
 have oG : ((h2 ++ [AObj.list (T.map .int)]).set 9 (.cell (some (.ref h2.length))))[kG]? = _ := get_set (get_app oG) (n9 lG)
 have oD : ((h2 ++ [AObj.list (T.map .int)]).set 9 (.cell (some (.ref h2.length))))[kD]? = _ := get_set (get_app oD) (n9 lD)
 have B3 := (B2.gr (h' := h2 ++ [.list (T.map .int)]) Kp.refl.more).put (v := .ref h2.length) (j := 9) (by decide)
 have v7 : upn cv2 9 (.ref h2.length) 7 = some (.ref kG) := v7
 have v8 : upn cv2 9 (.ref h2.length) 8 = some (.ref kD) := v8
 have v9 : upn cv2 9 (.ref h2.length) 9 = some (.ref h2.length) := upn_eq
 generalize (h2 ++ [AObj.list (T.map .int)]).set 9 (.cell (some (.ref h2.length))) = h3 at *
 generalize upn cv2 9 (.ref h2.length) = cv3 at *
 generalize h2.length = kT at *
 have eT : T = Tl N fun i => (gn T i).toNat := gn_ext (lT.trans Tl_len.symm) fun i l => by
  have l := lT ▸ l
  obtain ⟨m, e, _⟩ := nx i l
  unfold Tl
  rw [gn_map l]
  show gn T i = ((gn T i).toNat : Int)
  rw [e]; rfl
 refine xIteF <| eCmp <| B3.cx.ev rfl (by decide) v9 <| eCall <| eFn <| vCons <| B3.cx.ev rfl (by decide) B3.v3 <| vCons <| B3.cx.ev rfl (by decide) v7 <| vNil <| vNil <| next_spec (n := n + 4) B3.oR oG (by rw [B3.rl]; have := B3.nl; lia) (by rw [B3.rl, gl]; exact Nat.le_refl _) fun h4 r T' g er _ lT2 nx' => ?_
 have : T' = T := gn_ext (lT2.trans (B3.rl.trans lT.symm)) fun i l => (nx' i (lT2 ▸ l)).uniq (nx i (B3.rl ▸ lT2 ▸ l))
 subst this
 refine .neL (lints_l (g.get oT)) (lints_l er) ⟨by rw [decide_eq_true rfl]; rfl, ?_⟩
 have B4 := B3.gr g
 refine q (fun i => (gn T' i).toNat) ((List.range N).map (df sec width)) cv3 fr h4 kP kD kT ⟨B4.cx, B4.v1, B4.v4, B4.v5, v8, v9, B4.oP, g.get oD, by rw [← eT]; exact g.get oT, ⟨B4.lo.2.1, lD, lT'⟩, dl, fun i l => ?_, B4.nl, B4.hd⟩
 obtain ⟨m, e, l0, l1, _⟩ := nx i l
 show i < (gn T' i).toNat ∧ (gn T' i).toNat ≤ N
 rw [e]
 exact ⟨l0, B4.rl ▸ l1⟩
end
end Mine
namespace Mine
inductive WaJ (N : Nat) (to : Nat → Nat) (h : Hp) (ds : List Nat) (h' : Hp) (acc : List AV) : Prop
 | mk (ws : List (Nat × Int × Int)) (e : acc = ws.map fun x => AV.ref x.1) (g : Gr h h') (tup : ∀ x ∈ ws, h'[x.1]? = some (.tuple [.int x.2.1, .int x.2.2])) (val : ws.map Prod.snd = wv N to ds) : WaJ N to h ds h' acc
inductive SwJ (h : Hp) (ds : List (Nat × Int × Int)) (h' : Hp) (acc : List AV) : Prop
 | mk (ws : List (Nat × Int × Int)) (e : acc = ws.map fun x => AV.ref x.1) (g : Gr h h') (tup : ∀ x ∈ ws, h'[x.1]? = some (.tuple [.int x.2.1, .int x.2.2])) (val : ws.map Prod.snd = ds.map fun x => (x.2.2, x.2.1)) : SwJ h ds h' acc
theorem tups_snoc {h : Hp} {ws : List (Nat × Int × Int)} {a b : Int} (tup : ∀ x ∈ ws, h[x.1]? = some (.tuple [.int x.2.1, .int x.2.2])) : ∀ x ∈ ws ++ [(h.length, a, b)], (h ++ [AObj.tuple [.int a, .int b]])[x.1]? = some (.tuple [.int x.2.1, .int x.2.2]) := fun x hx =>
 (List.mem_append.mp hx).elim (fun z => get_app (tup x z)) fun z => by rw [List.mem_singleton.mp z]; exact tup_at
section
variable {n : Nat} {Q : AV → Hp → Prop} {N : Nat} {to : Nat → Nat} {dues : List Int} {hands : Int} {cv : Nat → Option AV} {fr : Fm} {h : Hp} {kP kD kT : Nat} (B : SQ N to dues hands cv fr h kP kD kT)
include B
theorem ways_spec (q : ∀ h' kW ws, Gr h h' → Ways h' kW ws → ws.map Prod.snd = wv N to (List.range N) → h.length ≤ kW → Q (.ref kW) h') :
  (go (n + 20)).ev (.comp (.tuple [(.loc 24), (.idx (.cel 80) (.loc 24))]) (.mk (.one (.loc 24)) (.seq (.cel 62)) [(.cmp .lt (.idx (.cel 80) (.loc 24)) (.cel 88))]) [] [] [88, 80]) fr h Q := by
 refine eComp <| src_seq <| B.cx.ev rfl (by decide) B.v5 <| .mk B.oP rfl ?_
 refine ckD (n := n + 19) (fun i : Nat => .one (.int (i : Int))) (List.range N) (WaJ N to h) hitsP ⟨[], rfl, by rw [List.map_nil, List.append_nil]; exact Kp.refl, nofun, rfl⟩ (fun ds h' acc j => WaJ.casesOn j fun ws _ g _ _ => g.get B.oP) (fun ds i rs fr' h' acc e ef j => WaJ.casesOn j fun ws e2 g tup val => .mk ?_) fun h' acc j => WaJ.casesOn j fun ws e2 g tup val => q _ _ ws g.more ⟨by rw [← e2]; exact tup_at, fun x hx => get_app (tup x hx)⟩ val g.len
 obtain ⟨ei, li⟩ := range_split e
 subst ei
 have ef : (fr'.set 24 (.int (ds.length : Int))).cel = _ := ef
 have B' := B.gr g
 have lt : ds.length < (Tl N to).length := Tl_len.symm ▸ li
 have et : gn (Tl N to) ds.length = to ds.length := gn_map li
 have lw : acc.length ≤ 1000 := by
  rw [e2, List.length_map, ← List.length_map (f := Prod.snd), val]
  have := wv_len (N := N) (to := to) (ds := ds); have := B.nl; lia
 have vs : wv N to (ds ++ [ds.length]) = wv N to ds ++ wv N to [ds.length] := by unfold wv; rw [List.filter_append, List.map_append]
 show tst (go (n + 19)) _ _ _ _
 refine eCmp <| eIdx <| B'.cx.evf ef rfl rfl (by decide) B'.v9 <| eLoc rfl <| gIx B'.oT lt <| B'.cx.evf ef rfl rfl (by decide) B'.v4 <| cLt ⟨_, rfl, ?_⟩
 rw [et]
 by_cases c : to ds.length < N
 ·rw [decide_eq_true (Int.ofNat_lt.mpr c)]
  show (go (n + 19)).ev _ _ _ _
  refine eTup <| vCons <| eLoc rfl <| vCons <| eIdx <| B'.cx.evf ef rfl rfl (by decide) B'.v9 <| eLoc rfl <| gIx B'.oT lt <| vNil ⟨Nat.le_trans lw (by decide), ef, ws ++ [(h'.length, (ds.length : Int), gn (Tl N to) ds.length)], by rw [e2, List.map_append]; rfl, g.more, tups_snoc tup, ?_⟩
  rw [List.map_append, val, vs, et]
  unfold wv
  rw [List.filter_cons, if_pos (decide_eq_true c)]; rfl
 ·rw [decide_eq_false fun z => c (Int.ofNat_lt.mp z)]
  refine ⟨ef, ws, e2, g, tup, ?_⟩
  rw [val, vs]
  unfold wv
  rw [List.filter_cons, if_neg (by rw [decide_eq_false c]; exact Bool.false_ne_true)]
  exact (List.append_nil _).symm
omit B in
theorem swap_spec {k : Nat} {ws : List (Nat × Int × Int)} (W : Ways h k ws) (f83 : fr.loc 83 = some (.ref k)) (lw : ws.length ≤ 1000) (q : ∀ h' kW us, Gr h h' → Ways h' kW us → us.map Prod.snd = ws.map (fun x => (x.2.2, x.2.1)) → h.length ≤ kW → Q (.ref kW) h') :
  (go (n + 20)).ev (.comp (.tuple [(.loc 84), (.loc 24)]) (.mk (.tup [.loc 24, .loc 84]) (.seq (.loc 83)) []) [] [] []) fr h Q := by
 refine eComp <| src_seq <| eLoc f83 <| .mk W.lst rfl ?_
 refine ckD (n := n + 19) (fun x : Nat × Int × Int => .one (.ref x.1)) ws (SwJ h) (by rw [List.map_map]; rfl) ⟨[], rfl, by rw [List.map_nil, List.append_nil]; exact Kp.refl, nofun, rfl⟩ (fun ds h' acc j => SwJ.casesOn j fun us _ g _ _ => g.get W.lst) (fun ds x rs fr' h' acc e ef j => SwJ.casesOn j fun us e2 g tup val => .tup (g.get (W.tup x (e ▸ List.mem_append_right _ (.head _)))) rfl ?_) fun h' acc j => SwJ.casesOn j fun us e2 g tup val => q _ _ us g.more ⟨by rw [← e2]; exact tup_at, fun x hx => get_app (tup x hx)⟩ val g.len
 have lu : us.length ≤ 1000 := by
  have := congrArg List.length val
  rw [List.length_map, List.length_map] at this
  have := congrArg List.length e
  rw [List.length_append] at this; lia
 show (go (n + 19)).ev _ _ _ _
 refine eTup <| vCons <| eLoc rfl <| vCons <| eLoc rfl <| vNil ⟨by rw [e2, List.length_map]; lia, ef, us ++ [(h'.length, x.2.2, x.2.1)], by rw [e2, List.map_append]; rfl, g.more, tups_snoc tup, ?_⟩
 rw [List.map_append, List.map_append, val]; rfl
end
inductive SD (N : Nat) (to : Nat → Nat) (dues : List Int) (hands : Int) (cv : Nat → Option AV) (fr : Fm) (h : Hp) (kP kD kT kB kW k : Nat) (ws us : List (Nat × Int × Int)) : Prop
 | mk (B : SQ N to dues hands cv fr h kP kD kT) (v13 : cv 13 = some (.ref kB)) (oB : h[kB]? = some (.list (dues.map .int))) (lB : 13 < kB) (nB : kB ≠ kP ∧ kB ≠ kD ∧ kB ≠ kT ∧ kB ≠ kW) (f83 : fr.loc 83 = some (.ref kW)) (W : Ways h kW ws) (wval : ws.map Prod.snd = wv N to (List.range N)) (f91 : fr.loc 91 = some (.ref k)) (F : Nat → Prop) (w : Wit) (R : RS h k F (built (adds6 us (List.range N))).prep w) (fn : ∀ j, F j → 13 < j ∧ j ≠ kP ∧ j ≠ kD ∧ j ≠ kT ∧ j ≠ kB ∧ j ≠ kW ∧ ∀ x ∈ ws, j ≠ x.1) (kF : ¬F k) (kn : 13 < k) (uval : us.map Prod.snd = (wv N to (List.range N)).map fun x => (x.2, x.1)) : SD N to dues hands cv fr h kP kD kT kB kW k ws us
section
variable {n : Nat} {Q : AFlow → Fm → Hp → Prop} {N : Nat} {to : Nat → Nat} {dues : List Int} {hands : Int} {cv : Nat → Option AV} {fr : Fm} {h : Hp} {kP kD kT : Nat} (B : SQ N to dues hands cv fr h kP kD kT)
include B
theorem segD (q : ∀ cv fr h kB kW k ws us, SD N to dues hands cv fr h kP kD kT kB kW k ws us → exStep (go (n + 40)) (g06_12b.drop 15) fr h Q) : exStep (go (n + 40)) (g06_12b.drop 12) fr h Q := by
 refine xAsg <| ways_spec (n := n + 20) B fun h1 kW ws g1 W wval lW => ?_
 have B1 := (B.gr g1).fs (x := 83) (v := .ref kW)
 have lh : 13 < h.length := Nat.lt_trans B.lo.1 (lt_of_get B.oP)
 have nl := B.nl
 refine xAsgC <| ePrim <| vCons <| B1.cx.ev rfl (by decide) B1.v8 <| vNil <| .list (dues.map .int) (seq_l B1.oD) (by rw [List.length_map, B.dl]; lia) <| B1.cx.stc Kp.refl.more (j := 13) rfl (by decide) ?_
 have B2 := (B1.gr (h' := h1 ++ [.list (dues.map .int)]) Kp.refl.more).put (v := .ref h1.length) (j := 13) (by decide)
 have lB : 13 < h1.length := Nat.lt_of_lt_of_le lh g1.len
 have nB : h1.length ≠ kP ∧ h1.length ≠ kD ∧ h1.length ≠ kT ∧ h1.length ≠ kW := ⟨Nat.ne_of_gt (lt_of_get B1.oP), Nat.ne_of_gt (lt_of_get B1.oD), Nat.ne_of_gt (lt_of_get B1.oT), Nat.ne_of_gt (lt_of_get W.lst)⟩
 have n13 : ∀ {k}, 13 < k → 13 ≠ k := fun l => Nat.ne_of_lt l
 have oB : ((h1 ++ [AObj.list (dues.map .int)]).set 13 (.cell (some (.ref h1.length))))[h1.length]? = _ := get_set tup_at (n13 lB)
 have W2 : Ways ((h1 ++ [AObj.list (dues.map .int)]).set 13 (.cell (some (.ref h1.length)))) kW ws := ⟨get_set (get_app W.lst) (n13 (Nat.lt_of_lt_of_le lh lW)), fun x hx => get_set (get_app (W.tup x hx)) (ne_of_get ((B1.cx.gr (Kp.refl.more (t := [.list (dues.map .int)]))).cells 13 (by decide) (by decide)) (get_app (W.tup x hx)) nofun)⟩
 have v13 : upn cv 13 (.ref h1.length) 13 = some (.ref h1.length) := upn_eq
 generalize (h1 ++ [AObj.list (dues.map .int)]).set 13 (.cell (some (.ref h1.length))) = h2 at *
 generalize upn cv 13 (.ref h1.length) = cv2 at *
 have lw : ws.length ≤ 32 := by
  have := congrArg List.length wval
  rw [List.length_map] at this
  have := wv_len (N := N) (to := to) (ds := List.range N)
  rw [List.length_range] at this; lia
 refine xAsg <| eCall <| eFn <| vCons <| B2.cx.ev rfl (by decide) B2.v5 <| vCons <| swap_spec (n := n + 19) W2 rfl (by lia) fun h3 kU us g3 U uval _ => vNil <| vNil ?_
 have uv : us.map Prod.snd = (wv N to (List.range N)).map fun x => (x.2, x.1) := by rw [uval, ← wval, List.map_map]; rfl
 have B3 := B2.gr g3
 have W3 := W2.gr g3
 have lu : us.length ≤ 32 := by have := congrArg List.length uval; rw [List.length_map, List.length_map] at this; lia
 refine sorter6_spec (n := n + 12) (rk := fun x => N - x.toNat) B3.oP U (adds6_ok (by lia) (by lia) fun x hx => ?_) (by lia) fun h4 k O lk => Own.casesOn O fun F w R g4 fn kF => ?_
 ·rw [uv] at hx
  obtain ⟨y, hy, e⟩ := List.mem_map.mp hx
  obtain ⟨i, a, c, e'⟩ := mem_wv.mp hy
  have := (B.up i a).1
  rw [← e, e']
  exact ⟨⟨to i, c, rfl⟩, by show N - (to i : Int).toNat < N - (i : Int).toNat; lia⟩
 ·have old : ∀ {j : Nat} {o : AObj}, h3[j]? = some o → ∀ i, F i → i ≠ j := fun e i z y => Nat.lt_irrefl _ (Nat.lt_of_lt_of_le (lt_of_get (y ▸ e)) (fn i z))
  have l3 : 13 < h3.length := lt_of_get (g3.get (B2.cx.cells 13 (by decide) (by decide)))
  exact q cv2 _ h4 _ kW k ws us ⟨(B3.gr g4).fs, v13, g4.get (g3.get oB), lB, nB, rfl, W3.gr g4, wval, rfl, F, w, R, fun j z => ⟨Nat.lt_of_lt_of_le l3 (fn j z), old B3.oP j z, old B3.oD j z, old B3.oT j z, old (g3.get oB) j z, old W3.lst j z, fun x hx => old (W3.tup x hx) j z⟩, kF, Nat.lt_of_lt_of_le l3 lk, uv⟩
end
end Mine
namespace Mine
noncomputable def bf (N : Nat) (to : Nat → Nat) (d : Nat → Int) : Nat → Nat → Int
 | 0, i => d i
 | m + 1, i => if to i < N then min (d i) (bf N to d m (to i) - 1) else d i
theorem bf_eq {N : Nat} {to : Nat → Nat} {d : Nat → Int} (up : ∀ i, i < N → i < to i ∧ to i ≤ N) : ∀ (m m' i : Nat), i < N → N - i ≤ m → N - i ≤ m' → bf N to d m i = bf N to d m' i
 | 0, _, i, h, l, _ => absurd l (by lia)
 | _ + 1, 0, i, h, _, l => absurd l (by lia)
 | m + 1, m' + 1, i, h, l, l' => by
  unfold bf
  by_cases c : to i < N
  ·have := (up i h).1
   rw [if_pos c, if_pos c, bf_eq up m m' (to i) c (by lia) (by lia)]
  ·rw [if_neg c, if_neg c]
theorem tob_ex {N : Nat} {to : Nat → Nat} {d : Nat → Int} (up : ∀ i, i < N → i < to i ∧ to i ≤ N) : ToB N to d (bf N to d N) := ⟨up, fun i h => by
 have e : bf N to d N i = bf N to d (N + 1) i := bf_eq up N (N + 1) i h (Nat.sub_le _ _) (by lia)
 rw [e]; rfl⟩
theorem mem_pls {adds : List (Int × List Int)} {i p : Int} : p ∈ pls adds i ↔ ∃ a ∈ adds, a.1 = i ∧ p ∈ a.2 := by
 unfold pls
 rw [List.mem_flatMap]
 constructor
 ·rintro ⟨a, ha, h⟩
  by_cases c : a.1 = i
  ·rw [if_pos c] at h; exact ⟨a, ha, c, h⟩
  ·rw [if_neg c] at h; cases h
 ·rintro ⟨a, ha, c, h⟩
  exact ⟨a, ha, by rw [if_pos c]; exact h⟩
theorem pls_adds6 {ws : List (Nat × Int × Int)} {N i : Nat} (hi : i < N) {p : Int} : p ∈ pls (adds6 ws (List.range N)) i ↔ (p, (i : Int)) ∈ ws.map Prod.snd := by
 rw [mem_pls]
 constructor
 ·rintro ⟨a, ha, e, hp⟩
  obtain ⟨q, _, z | z⟩ := mem_adds6.mp ha
  ·rw [z] at e hp; rw [prd_v] at hp
   have := mem_prdv.mp hp
   rw [show ((q : Int)) = i from e] at this; exact this
  ·rw [z] at hp; cases hp
 ·intro h
  exact ⟨((i : Int), prd ws i), mem_adds6.mpr ⟨i, List.mem_range.mpr hi, .inl rfl⟩, rfl, by rw [prd_v]; exact mem_prdv.mpr h⟩
theorem ks_adds6 {ws : List (Nat × Int × Int)} {N : Nat} {rk : Int → Nat} (A : Adds (adds6 ws (List.range N)) (plN N) rk) {j : Int} : j ∈ (built (adds6 ws (List.range N))).ks ↔ ∃ i, i < N ∧ j = (i : Int) := by
 rw [(built_bt _).memk]
 constructor
 ·rintro ⟨a, ha, z⟩
  have := A.mem a ha
  exact mem_plN.mp (z.elim (fun e => e ▸ this.1) fun e => (this.2 j e).1)
 ·rintro ⟨i, hi, e⟩
  exact ⟨((i : Int), []), mem_adds6.mpr ⟨i, List.mem_range.mpr hi, .inr rfl⟩, .inl e⟩
structure TI (N : Nat) (to : Nat → Nat) (d b : Nat → Int) (us : List (Nat × Int × Int)) (S : Sr) (bs : List Int) (D l : List Int) : Prop where
 K : KI (adds6 us (List.range N)) (built (adds6 us (List.range N))) S D D l
 bl : bs.length = N
 bv : ∀ i, i < N → gn bs i = if (i : Int) ∈ D then b i else d i
section
variable {N : Nat} {to : Nat → Nat} {d b : Nat → Int} {us : List (Nat × Int × Int)} {rk : Int → Nat} (uval : us.map Prod.snd = (wv N to (List.range N)).map fun x => (x.2, x.1)) (A : Adds (adds6 us (List.range N)) (plN N) rk)
include uval
theorem pls_us {i : Nat} (hi : i < N) {p : Int} : p ∈ pls (adds6 us (List.range N)) i ↔ to i < N ∧ p = (to i : Int) := by
 rw [pls_adds6 hi, uval]
 constructor
 ·intro h
  obtain ⟨y, hy, e⟩ := List.mem_map.mp h
  obtain ⟨k, a, c, e'⟩ := mem_wv.mp hy
  rw [e'] at e
  have e1 := congrArg Prod.fst e
  have e2 : k = i := Int.ofNat.inj (congrArg Prod.snd e)
  subst e2
  exact ⟨c, e1.symm⟩
 ·rintro ⟨c, e⟩
  exact List.mem_map.mpr ⟨((i : Int), (to i : Int)), mem_wv.mpr ⟨i, hi, c, rfl⟩, by rw [e]⟩
include A
variable {S : Sr} {bs D l : List Int} (I : TI N to d b us S bs D l)
include I
theorem TI.rdy {x : Int} (hx : x ∈ l) : ∃ i, i < N ∧ x = (i : Int) ∧ (to i < N → (to i : Int) ∈ D) ∧ x ∉ D := by
 have z := (I.K.rdy x).mp (.inr hx)
 obtain ⟨i, hi, e⟩ := (ks_adds6 A).mp z.1
 subst e
 exact ⟨i, hi, rfl, fun c => z.2 _ ((pls_us uval hi).mpr ⟨c, rfl⟩), I.K.lh _ hx⟩
theorem TI.sub {x : Int} (hx : x ∈ D) : ∃ i, i < N ∧ x = (i : Int) := (ks_adds6 A).mp (I.K.hk x hx)
theorem TI.all (h : N ≤ D.length) {i : Nat} (hi : i < N) : (i : Int) ∈ D := by
 refine Classical.byContradiction fun hn => ?_
 have := nodup_len (l := (i : Int) :: D) (ks := plN N) (List.nodup_cons.mpr ⟨hn, I.K.dn⟩) fun x hx => mem_plN.mpr ((List.mem_cons.mp hx).elim (fun e => ⟨i, hi, e⟩) (TI.sub uval A I))
 unfold plN at this
 rw [List.length_map, List.length_range, List.length_cons] at this; lia
theorem TI.more (up : ∀ i, i < N → i < to i ∧ to i ≤ N) (h : D.length < N) : l ≠ [] := by
 intro e
 have key : ∀ m i, N - i ≤ m → i < N → (i : Int) ∈ D := by
  intro m
  induction m with
  | zero => intro i l hi; lia
  | succ m ih =>
   intro i l hi
   have := (I.K.rdy i).mpr ⟨(ks_adds6 A).mpr ⟨i, hi, rfl⟩, fun p hp => by
    obtain ⟨c, ep⟩ := (pls_us uval hi).mp hp
    rw [ep]; exact ih (to i) (by have := (up i hi).1; lia) c⟩
   rw [e] at this
   exact this.elim id nofun
 have : (plN N).length ≤ D.length := nodup_len (by
  unfold plN
  rw [List.nodup_iff_pairwise_ne, List.pairwise_map]
  exact List.nodup_range.imp fun {a b} (z : a ≠ b) e => z (Int.ofNat.inj e)) fun x hx => by
   obtain ⟨i, hi, e⟩ := mem_plN.mp hx
   rw [e]; exact key N i (Nat.sub_le _ _) hi
 unfold plN at this
 rw [List.length_map, List.length_range] at this; lia
end
end Mine
namespace Mine
section
variable {N : Nat} {to : Nat → Nat} {dues : List Int} {hands : Int} {cv : Nat → Option AV} {fr : Fm} {h h' : Hp} {kP kD kT : Nat} (B : SQ N to dues hands cv fr h kP kD kT)
include B
theorem SQ.kp {F : Nat → Prop} (kp : Kp F h h') (f : ∀ j, F j → 13 < j ∧ j ≠ kP ∧ j ≠ kD ∧ j ≠ kT) : SQ N to dues hands cv fr h' kP kD kT :=
 ⟨⟨B.cx.cel, fun j a b => kp.keep _ _ (fun z => Nat.lt_irrefl _ (Nat.lt_of_lt_of_le (f j z).1 b)) (B.cx.cells j a b)⟩, B.v1, B.v4, B.v5, B.v8, B.v9, kp.keep _ _ (fun z => (f _ z).2.1 rfl) B.oP, kp.keep _ _ (fun z => (f _ z).2.2.1 rfl) B.oD, kp.keep _ _ (fun z => (f _ z).2.2.2 rfl) B.oT, B.lo, B.dl, B.up, B.nl, B.hd⟩
theorem SQ.one {k : Nat} {o : AObj} (l : 13 < k) (n : k ≠ kP ∧ k ≠ kD ∧ k ≠ kT) : SQ N to dues hands cv fr (h.set k o) kP kD kT :=
 B.kp (F := fun j => j = k) ⟨Nat.le_of_eq List.length_set.symm, fun j o' z e => get_set e fun y => z y.symm⟩ fun j z => z ▸ ⟨l, n⟩
theorem min_turn {n i kB : Nat} {bs : List Int} {K : AFlow → Fm → Hp → Prop} (v13 : cv 13 = some (.ref kB)) (oB : h[kB]? = some (.list (bs.map .int))) (f24 : fr.loc 24 = some (.int (i : Int))) (hi : i < N) (bl : bs.length = N) (q1 : to i < N → K .next fr (h.set kB (.list ((bs.set i (min (gn bs i) (gn bs (to i) - 1))).map .int)))) (q2 : ¬to i < N → K .next fr h) :
  exStep (go (n + 20)) [.ite (.cmp .lt (.idx (.cel 80) (.loc 24)) (.cel 88)) [.asg [.idx (.cel 90) (.loc 24)] (.prim .min2 [(.idx (.cel 90) (.loc 24)), (.bin .sub (.idx (.cel 90) (.idx (.cel 80) (.loc 24))) (.int 1))])] []] fr h K := by
 have lt : i < (Tl N to).length := Tl_len.symm ▸ hi
 have et : gn (Tl N to) i = to i := gn_map hi
 by_cases c : to i < N
 ·refine xIteT <| eCmp <| eIdx <| B.cx.ev rfl (by decide) B.v9 <| eLoc f24 <| gIx B.oT lt <| B.cx.ev rfl (by decide) B.v4 <| cLt ⟨by rw [et, decide_eq_true (Int.ofNat_lt.mpr c)]; rfl, ?_⟩
  refine xEnter <| xAsgI <| ePrim <| vCons <| eIdx <| B.cx.ev rfl (by decide) v13 <| eLoc f24 <| gIx oB (bl.symm ▸ hi) <| vCons <| eBin <| eIdx <| B.cx.ev rfl (by decide) v13 <| eIdx <| B.cx.ev rfl (by decide) B.v9 <| eLoc f24 <| gIx B.oT lt ?_
  rw [et]
  refine gIx oB (bl.symm ▸ c) <| eInt <| oSub <| vNil <| .min2 <| B.cx.ev rfl (by decide) v13 <| eLoc f24 <| .list oB (Int.natCast_nonneg i) (by rw [List.length_map, bl]; exact Int.ofNat_lt.mpr hi) (xNil (xNil ?_))
  have := q1 c
  rw [List.map_set] at this
  exact this
 ·exact xIteF <| eCmp <| eIdx <| B.cx.ev rfl (by decide) B.v9 <| eLoc f24 <| gIx B.oT lt <| B.cx.ev rfl (by decide) B.v4 <| cLt ⟨by rw [et, decide_eq_false fun z => c (Int.ofNat_lt.mp z)]; rfl, xNil (q2 c)⟩
end
theorem gn_set {l : List Int} {i j : Nat} {x : Int} (h : i < l.length) : gn (l.set i x) j = if j = i then x else gn l j := by
 unfold gn
 rw [List.getD_eq_getElem?_getD, List.getElem?_set, List.getD_eq_getElem?_getD]
 by_cases c : j = i
 ·subst c; rw [if_pos rfl, if_pos h, if_pos rfl]; rfl
 ·rw [if_neg (fun z => c z.symm), if_neg c]
structure TC (kP kD kT kB kW k : Nat) (ws : List (Nat × Int × Int)) (F : Nat → Prop) : Prop where
 lB : 13 < kB
 nB : kB ≠ kP ∧ kB ≠ kD ∧ kB ≠ kT ∧ kB ≠ kW
 fn : ∀ j, F j → 13 < j ∧ j ≠ kP ∧ j ≠ kD ∧ j ≠ kT ∧ j ≠ kB ∧ j ≠ kW ∧ ∀ x ∈ ws, j ≠ x.1
 kF : ¬F k
inductive TH (N : Nat) (to : Nat → Nat) (dues : List Int) (hands : Int) (cv : Nat → Option AV) (kP kD kT kB kW k : Nat) (ws : List (Nat × Int × Int)) (F : Nat → Prop) (w : Wit) (S : Sr) (bs : List Int) (fr : Fm) (h : Hp) : Prop
 | mk (B : SQ N to dues hands cv fr h kP kD kT) (oB : h[kB]? = some (.list (bs.map .int))) (f83 : fr.loc 83 = some (.ref kW)) (f91 : fr.loc 91 = some (.ref k)) (W : Ways h kW ws) (R : RS h k F S w) : TH N to dues hands cv kP kD kT kB kW k ws F w S bs fr h
section
variable {N : Nat} {to : Nat → Nat} {dues : List Int} {hands : Int} {cv : Nat → Option AV} {kP kD kT kB kW k : Nat} {ws : List (Nat × Int × Int)} {F : Nat → Prop} {w : Wit} {S S' : Sr} {bs : List Int} {fr : Fm} {h h' : Hp} (C : TC kP kD kT kB kW k ws F)
include C
theorem TH.aft (T : TH N to dues hands cv kP kD kT kB kW k ws F w S bs fr h) (A : Aft h F k S' h' F w) : TH N to dues hands cv kP kD kT kB kW k ws F w S' bs fr h' := TH.casesOn T fun B oB f83 f91 W R =>
 ⟨B.kp A.kp fun j z => let y := C.fn j z; ⟨y.1, y.2.1, y.2.2.1, y.2.2.2.1⟩, A.kp.keep _ _ (fun z => (C.fn _ z).2.2.2.2.1 rfl) oB, f83, f91, ⟨A.kp.keep _ _ (fun z => (C.fn _ z).2.2.2.2.2.1 rfl) W.lst, fun x hx => A.kp.keep _ _ (fun z => (C.fn _ z).2.2.2.2.2.2 x hx rfl) (W.tup x hx)⟩, A.rs⟩
theorem TH.setB {bs' : List Int} (T : TH N to dues hands cv kP kD kT kB kW k ws F w S bs fr h) : TH N to dues hands cv kP kD kT kB kW k ws F w S bs' fr (h.set kB (.list (bs'.map .int))) := TH.casesOn T fun B oB f83 f91 W R =>
 ⟨B.one C.lB ⟨C.nB.1, C.nB.2.1, C.nB.2.2.1⟩, get_self oB, f83, f91, ⟨get_set W.lst C.nB.2.2.2, fun x hx => get_set (W.tup x hx) (ne_of_get oB (W.tup x hx) nofun)⟩, R.move (Nat.le_of_eq List.length_set.symm) fun j o z e => get_set e fun y => z.elim (fun z => (C.fn j z).2.2.2.2.1 y.symm) fun z => ne_of_get oB R.inst nofun (y.trans z)⟩
omit C in
theorem TH.fs {x : Nat} {v : AV} (n1 : 83 ≠ x) (n2 : 91 ≠ x) (T : TH N to dues hands cv kP kD kT kB kW k ws F w S bs fr h) : TH N to dues hands cv kP kD kT kB kW k ws F w S bs (fr.set x v) h := TH.casesOn T fun B oB f83 f91 W R => ⟨B.fs, oB, (if_neg n1).trans f83, (if_neg n2).trans f91, W, R⟩
end
end Mine
namespace Mine
section
variable {n : Nat} {N : Nat} {to : Nat → Nat} {dues : List Int} {hands : Int} {cv : Nat → Option AV} {kP kD kT kB kW k : Nat} {ws us : List (Nat × Int × Int)} {F : Nat → Prop} {w : Wit} {b : Nat → Int} {rk : Int → Nat}
inductive MJ (N : Nat) (to : Nat → Nat) (dues : List Int) (hands : Int) (cv : Nat → Option AV) (kP kD kT kB kW k : Nat) (ws : List (Nat × Int × Int)) (F : Nat → Prop) (w : Wit) (b : Nat → Int) (S : Sr) (D l : List Int) (t : Nat) (ds : List Int) (fr : Fm) (h : Hp) : Prop
 | mk (bs : List Int) (T : TH N to dues hands cv kP kD kT kB kW k ws F w S bs fr h) (f74 : fr.loc 74 = some (.ref t)) (et : h[t]? = some (.tuple (l.map .int))) (bl : bs.length = N) (bv : ∀ i, i < N → gn bs i = if (i : Int) ∈ D ++ ds then b i else gn dues i) : MJ N to dues hands cv kP kD kT kB kW k ws F w b S D l t ds fr h
variable (C : TC kP kD kT kB kW k ws F) (v13 : cv 13 = some (.ref kB)) (uval : us.map Prod.snd = (wv N to (List.range N)).map fun x => (x.2, x.1)) (A : Adds (adds6 us (List.range N)) (plN N) rk) (Bd : ToB N to (gn dues) b)
include C v13 uval A Bd
theorem turned_turn {S : Sr} {bs D l : List Int} {fr : Fm} {h : Hp} {K : AFlow → Fm → Hp → Prop} {v : AV} (T : TH N to dues hands cv kP kD kT kB kW k ws F w S bs fr h) (I : TI N to (gn dues) b us S bs D l)
  (q : ∀ fr' h' S' bs' l', TH N to dues hands cv kP kD kT kB kW k ws F w S' bs' fr' h' → TI N to (gn dues) b us S' bs' (D ++ l) l' → K .next fr' h') :
  exStep (go (n + 39)) [.asg [.var (.loc 74)] (.meth (.loc 91) 49 [] []), .for (.one (.loc 24)) (.seq (.loc 74)) [.ite (.cmp .lt (.idx (.cel 80) (.loc 24)) (.cel 88)) [.asg [.idx (.cel 90) (.loc 24)] (.prim .min2 [(.idx (.cel 90) (.loc 24)), (.bin .sub (.idx (.cel 90) (.idx (.cel 80) (.loc 24))) (.int 1))])] []], .expr (.meth (.loc 91) 51 [] [(.loc 74)])] (fr.set 92 v) h K := by
 have bt := built_bt (adds6 us (List.range N))
 have e0 : adds6 us (List.range N) = adds6 us (List.range N) ++ [] := (List.append_nil _).symm
 refine TH.casesOn T fun B oB f83 f91 W R => ?_
 have nd : (built (adds6 us (List.range N))).ks.Nodup := I.K.ks ▸ R.nd
 have hs := A.sul e0
 have hk := A.ksl e0 nd
 have ll := KI.ll bt hs hk I.K
 refine xAsg <| eOwn (j := 5) rfl <| eLoc (show (fr.set 92 v).loc 91 = _ from f91) ⟨k, _, rfl, R.inst, vNil ?_⟩
 refine f5_spec (n := n + 28) R I.K.rd (Nat.le_trans ll.1 (by decide)) ll.2 C.kF fun h1 t A1 e1 lt => ?_
 have T1 := (TH.fs (x := 92) (v := v) (by decide) (by decide) T).aft C A1
 have T1 := TH.fs (x := 74) (v := .ref t) (by decide) (by decide) T1
 have K1 := ki_ready bt I.K
 refine xForD .int l (MJ N to dues hands cv kP kD kT kB kW k ws F w b (S.ready l) D l t) (eLoc rfl ⟨rfl, rfl⟩) e1 rfl ⟨bs, T1, rfl, e1, I.bl, by rw [List.append_nil]; exact I.bv⟩ (fun ds fr h j => MJ.casesOn j fun _ _ _ et _ _ => et) (fun ds x rs fr2 h2 e j => MJ.casesOn j fun bs2 T2 f74 et bl bv => ?_) fun fr2 h2 j => MJ.casesOn j fun bs2 T2 f74 et bl bv => ?_
 ·have hx : x ∈ l := mem_mid e
  obtain ⟨i, hi, ei, hp, hD⟩ := TI.rdy uval A I hx
  subst ei
  have T3 := TH.fs (x := 24) (v := .int (i : Int)) (by decide) (by decide) T2
  have nds : (i : Int) ∉ ds := fun z => by
   have := I.K.ln
   rw [e] at this
   exact (List.nodup_append.mp this).2.2 _ z _ (.head _) rfl
  have nDd : (i : Int) ∉ D ++ ds := fun z => (List.mem_append.mp z).elim hD nds
  have vi := bv i hi
  rw [if_neg nDd] at vi
  have mm : ∀ j : Nat, j ≠ i → ((j : Int) ∈ D ++ (ds ++ [(i : Int)]) ↔ (j : Int) ∈ D ++ ds) := fun j hj => by
   rw [← List.append_assoc, List.mem_append, List.mem_singleton]
   exact ⟨fun z => z.elim id fun z => absurd (Int.ofNat.inj z) hj, .inl⟩
  have mi : (i : Int) ∈ D ++ (ds ++ [(i : Int)]) := List.mem_append_right _ (List.mem_append_right _ (.head _))
  refine TH.casesOn T3 fun B3 oB3 _ _ _ _ => min_turn (n := n + 18) B3 v13 oB3 rfl hi bl (fun c => ⟨_, T3.setB C, f74, get_set et (ne_of_get oB3 et nofun), by rw [List.length_set]; exact bl, fun j hj => ?_⟩) fun c => ⟨bs2, T3, f74, et, bl, fun j hj => ?_⟩
  ·rw [gn_set (bl.symm ▸ hi)]
   by_cases y : j = i
   ·subst y
    rw [if_pos rfl, if_pos mi, vi, bv (to j) c, if_pos (List.mem_append_left _ (hp c)), Bd.bd j hi, if_pos c]
   ·rw [if_neg y, bv j hj]
    by_cases z : (j : Int) ∈ D ++ ds
    ·rw [if_pos z, if_pos ((mm j y).mpr z)]
    ·rw [if_neg z, if_neg fun q => z ((mm j y).mp q)]
  ·by_cases y : j = i
   ·subst y
    rw [if_pos mi, vi, Bd.bd j hi, if_neg c]
   ·rw [bv j hj]
    by_cases z : (j : Int) ∈ D ++ ds
    ·rw [if_pos z, if_pos ((mm j y).mpr z)]
    ·rw [if_neg z, if_neg fun q => z ((mm j y).mp q)]
 ·have dn := ki_dones bt hs hk l K1 (fun x hx => ⟨List.mem_append_right _ hx, I.K.lh x hx⟩) I.K.ln
  refine dn.2.elim fun l' K2 => ?_
  refine TH.casesOn T2 fun B2 oB2 f83 f91 W2 R2 => xExpr <| eOwn (j := 7) rfl <| eLoc f91 ⟨k, _, rfl, R2.inst, vNil <| eLoc f74 ⟨_, seq_t et, by rw [List.length_map]; exact Nat.le_trans ll.1 (by decide), ?_⟩⟩
  exact f7_spec (n := n + 26) R2 dn.1 (Nat.le_trans ll.1 (by decide)) ⟨_, K1.rd⟩ C.kF fun h3 A3 => xNil (q _ _ _ bs2 l' (T2.aft C A3) ⟨K2, bl, bv⟩)
end
end Mine
namespace Mine
inductive TLJ (N : Nat) (to : Nat → Nat) (dues : List Int) (hands : Int) (cv : Nat → Option AV) (kP kD kT kB kW k : Nat) (ws us : List (Nat × Int × Int)) (F : Nat → Prop) (w : Wit) (b : Nat → Int) (ds : List Nat) (fr : Fm) (h : Hp) : Prop
 | mk (S : Sr) (bs D l : List Int) (T : TH N to dues hands cv kP kD kT kB kW k ws F w S bs fr h) (I : TI N to (gn dues) b us S bs D l) (pr : ds.length ≤ D.length ∨ N ≤ D.length) : TLJ N to dues hands cv kP kD kT kB kW k ws us F w b ds fr h
structure SE (N : Nat) (to : Nat → Nat) (dues bs : List Int) (b : Nat → Int) (hands : Int) (cv : Nat → Option AV) (fr : Fm) (h : Hp) (kP kD kT kB kW : Nat) (ws : List (Nat × Int × Int)) : Prop where
 B : SQ N to dues hands cv fr h kP kD kT
 v13 : cv 13 = some (.ref kB)
 oB : h[kB]? = some (.list (bs.map .int))
 lB : 13 < kB
 nB : kB ≠ kP ∧ kB ≠ kD ∧ kB ≠ kT ∧ kB ≠ kW
 f83 : fr.loc 83 = some (.ref kW)
 W : Ways h kW ws
 wval : ws.map Prod.snd = wv N to (List.range N)
 Bd : ToB N to (gn dues) b
 bl : bs.length = N + 2
 bv : ∀ i, i < N → gn bs i = b i
 top : ∀ i, i < N → b i < gn bs N
 bot : ∀ i, i < N → gn bs (N + 1) < b i
section
variable {n : Nat} {Q : AFlow → Fm → Hp → Prop} {N : Nat} {to : Nat → Nat} {dues : List Int} {hands : Int} {cv : Nat → Option AV} {fr : Fm} {h : Hp} {kP kD kT kB kW k : Nat} {ws us : List (Nat × Int × Int)}
theorem segE (D : SD N to dues hands cv fr h kP kD kT kB kW k ws us) (q : ∀ fr h bs b, SE N to dues bs b hands cv fr h kP kD kT kB kW ws → exStep (go (n + 40)) (g06_12b.drop 18) fr h Q) : exStep (go (n + 40)) (g06_12b.drop 15) fr h Q := by
 refine SD.casesOn D fun B v13 oB lB nB f83 W wval f91 F w R fn kF kn uval => ?_
 have C : TC kP kD kT kB kW k ws F := ⟨lB, nB, fn, kF⟩
 have nl := B.nl
 have lu : us.length ≤ 32 := by
  have := congrArg List.length uval
  rw [List.length_map, List.length_map] at this
  have := wv_len (N := N) (to := to) (ds := List.range N)
  rw [List.length_range] at this; lia
 have A : Adds (adds6 us (List.range N)) (plN N) (fun x => N - x.toNat) := adds6_ok (by lia) (by lia) fun x hx => by
  rw [uval] at hx
  obtain ⟨y, hy, e⟩ := List.mem_map.mp hx
  obtain ⟨i, a, c, e'⟩ := mem_wv.mp hy
  have := (B.up i a).1
  rw [← e, e']
  exact ⟨⟨to i, c, rfl⟩, by show N - (to i : Int).toNat < N - (i : Int).toNat; lia⟩
 have Bd : ToB N to (gn dues) (bf N to (gn dues) N) := tob_ex B.up
 generalize bf N to (gn dues) N = b at Bd
 have bt := built_bt (adds6 us (List.range N))
 have I0 : TI N to (gn dues) b us (built (adds6 us (List.range N))).prep dues [] _ := ⟨ki_prep bt R.nd, B.dl, fun i hi => (if_neg List.not_mem_nil).symm⟩
 refine xFor <| src_seq <| B.cx.ev rfl (by decide) B.v5 <| .mk B.oP rfl ?_
 refine fkD (n := n + 39) (fun i : Nat => .one (.int (i : Int))) (List.range N) (TLJ N to dues hands cv kP kD kT kB kW k ws us F w b) hitsP ⟨_, dues, [], _, ⟨B, oB, f83, f91, W, R⟩, I0, .inl (Nat.le_refl 0)⟩ (fun ds fr h j => TLJ.casesOn j fun S bs D l T I pr => TH.casesOn T fun B _ _ _ _ _ => B.oP) (fun ds x rs fr h e j => TLJ.casesOn j fun S bs D l T I pr => .mk (turned_turn C v13 uval A Bd T I fun fr' h' S' bs' l' T' I' => ⟨S', bs', D ++ l, l', T', I', ?_⟩)) fun fr h j => TLJ.casesOn j fun S bs D l T I pr => ?_
 ·rw [List.length_append, List.length_append, List.length_singleton]
  by_cases c : D.length < N
  ·have := List.length_pos_iff.mpr (TI.more uval A I B.up c)
   lia
  ·exact .inr (by lia)
 ·refine TH.casesOn T fun B oB f83 f91 W R => ?_
  have full : N ≤ D.length := pr.elim (fun z => by rwa [List.length_range] at z) id
  have bv : ∀ i, i < N → gn bs i = b i := fun i hi => (I.bv i hi).trans (if_pos (TI.all uval A I full hi))
  have bl := I.bl
  refine xIteF <| eCmp <| B.cx.ev rfl (by decide) v13 <| eCall <| eFn <| vCons <| B.cx.ev rfl (by decide) B.v8 <| vCons <| B.cx.ev rfl (by decide) B.v9 <| vNil <| vNil <| bounds_spec (n := n + 24) B.oD B.oT (by rw [Tl_len]; lia) (by rw [Tl_len, B.dl]; exact Nat.le_refl _) (fun i hi => gn_map (by rwa [Tl_len] at hi)) (by rw [Tl_len]; exact Bd) fun h1 r R' g er _ lR nR => ?_
  rw [Tl_len] at lR nR
  have : R' = bs := gn_ext (lR.trans bl.symm) fun i hi => (nR i (lR ▸ hi)).trans (bv i (lR ▸ hi)).symm
  subst this
  refine .neL (lints_l (g.get oB)) (lints_l er) ⟨by rw [decide_eq_true rfl]; rfl, ?_⟩
  have B1 := B.gr g
  have oB1 := g.get oB
  have hne : R' ≠ [] := fun z => by rw [z] at bl; exact absurd bl.symm (by show ¬N = 0; lia)
  refine xExpr <| eMeth (by decide) <| B1.cx.ev rfl (by decide) v13 ⟨kB, _, rfl, oB1, vCons <| eList <| vCons <| eBin <| ePrim <| vCons <| B1.cx.ev rfl (by decide) v13 <| vNil <| .max R' (lints_l oB1) hne fun M hM1 hM2 => eInt <| oAdd <| vCons <| eBin <| ePrim <| vCons <| B1.cx.ev rfl (by decide) v13 <| vNil <| .min R' (lints_l oB1) hne fun m hm1 hm2 => eInt <| oSub <| vNil <| vNil <| bExtend (get_app oB1) (by rw [List.length_map, bl]; lia) (.list tup_at) (show (2 : Nat) ≤ 100000 from by decide) ?_⟩
  have B2 := (B1.gr (h' := h1 ++ [.list [.int (M + 1), .int (m - 1)]]) Kp.refl.more).one (o := .list (R'.map .int ++ [.int (M + 1), .int (m - 1)])) lB ⟨nB.1, nB.2.1, nB.2.2.1⟩
  have W1 := W.gr g
  have mem : ∀ i, i < N → gn R' i ∈ R' := fun i hi => List.mem_of_getElem? (gn_get (bl.symm ▸ hi))
  have at0 : gn (R' ++ [M + 1, m - 1]) N = M + 1 := by
   unfold gn
   rw [List.getD_eq_getElem?_getD, List.getElem?_append_right (Nat.le_of_eq bl), bl, Nat.sub_self]; rfl
  have at1 : gn (R' ++ [M + 1, m - 1]) (N + 1) = m - 1 := by
   unfold gn
   rw [List.getD_eq_getElem?_getD, List.getElem?_append_right (by lia), bl, Nat.add_sub_cancel_left]; rfl
  refine q _ _ (R' ++ [M + 1, m - 1]) b ⟨B2, v13, by rw [List.map_append]; exact get_self (get_app oB1), lB, nB, f83, ⟨get_set (get_app W1.lst) nB.2.2.2, fun x hx => get_set (get_app (W1.tup x hx)) (ne_of_get (get_app (t := [.list [.int (M + 1), .int (m - 1)]]) oB1) (get_app (W1.tup x hx)) nofun)⟩, wval, Bd, by rw [List.length_append, bl]; rfl, fun i hi => (gn_app (bl.symm ▸ hi)).trans (bv i hi), fun i hi => ?_, fun i hi => ?_⟩
  ·rw [at0, ← bv i hi]; have := hM2 _ (mem i hi); lia
  ·rw [at1, ← bv i hi]; have := hm2 _ (mem i hi); lia
end
end Mine
namespace Mine
structure RL (a : Nat → Nat) (f : Nat → List Int) (h : Hp) : Prop where
 inj : ∀ i j, i < 6 → j < 6 → a i = a j → i = j
 at' : ∀ i, i < 6 → h[a i]? = some (.list ((f i).map .int))
 lo : ∀ i, i < 6 → 13 < a i
noncomputable def updN (f : Nat → List Int) (i : Nat) (x : List Int) : Nat → List Int := fun j => if j = i then x else f j
theorem RL.set {a : Nat → Nat} {f : Nat → List Int} {h : Hp} (R : RL a f h) {i : Nat} (hi : i < 6) {x : List Int} : RL a (updN f i x) (h.set (a i) (.list (x.map .int))) :=
 ⟨R.inj, fun j hj => by
  unfold updN
  by_cases e : j = i
  ·subst e; rw [if_pos rfl]; exact get_self (R.at' j hj)
  ·rw [if_neg e]; exact get_set (R.at' j hj) fun z => e (R.inj i j hi hj z).symm, R.lo⟩
structure LC (kP kD kT kW k : Nat) (a : Nat → Nat) (ws : List (Nat × Int × Int)) (F : Nat → Prop) : Prop where
 na : ∀ i, i < 6 → a i ≠ kP ∧ a i ≠ kD ∧ a i ≠ kT ∧ a i ≠ kW
 fn : ∀ j, F j → 13 < j ∧ j ≠ kP ∧ j ≠ kD ∧ j ≠ kT ∧ j ≠ kW ∧ (∀ x ∈ ws, j ≠ x.1) ∧ ∀ i, i < 6 → j ≠ a i
 kF : ¬F k
structure SF (N : Nat) (to : Nat → Nat) (dues : List Int) (hands : Int) (cv : Nat → Option AV) (fr : Fm) (h : Hp) (kP kD kT kW k : Nat) (ws : List (Nat × Int × Int)) (a : Nat → Nat) (f : Nat → List Int) (F : Nat → Prop) (w : Wit) (S : Sr) (s : Nat) : Prop where
 B : SQ N to dues hands cv fr h kP kD kT
 v10 : cv 10 = some (.ref (a 4))
 v13 : cv 13 = some (.ref (a 5))
 f44 : fr.loc 44 = some (.ref k)
 f93 : fr.loc 93 = some (.ref (a 0))
 f50 : fr.loc 50 = some (.ref (a 1))
 f94 : fr.loc 94 = some (.ref (a 2))
 f95 : fr.loc 95 = some (.ref (a 3))
 f97 : fr.loc 97 = some (.int (s : Int))
 f83 : fr.loc 83 = some (.ref kW)
 L : RL a f h
 W : Ways h kW ws
 R : RS h k F S w
section
variable {N : Nat} {to : Nat → Nat} {dues : List Int} {hands : Int} {cv : Nat → Option AV} {fr : Fm} {h h' : Hp} {kP kD kT kW k : Nat} {ws : List (Nat × Int × Int)} {a : Nat → Nat} {f : Nat → List Int} {F : Nat → Prop} {w : Wit} {S S' : Sr} {s : Nat} (T : SF N to dues hands cv fr h kP kD kT kW k ws a f F w S s)
include T
theorem SF.gr (g : Gr h h') : SF N to dues hands cv fr h' kP kD kT kW k ws a f F w S s :=
 ⟨T.B.gr g, T.v10, T.v13, T.f44, T.f93, T.f50, T.f94, T.f95, T.f97, T.f83, ⟨T.L.inj, fun i hi => g.get (T.L.at' i hi), T.L.lo⟩, T.W.gr g, T.R.move g.len fun j o _ e => g.get e⟩
theorem SF.aft (C : LC kP kD kT kW k a ws F) (A : Aft h F k S' h' F w) : SF N to dues hands cv fr h' kP kD kT kW k ws a f F w S' s :=
 ⟨T.B.kp A.kp fun j z => let y := C.fn j z; ⟨y.1, y.2.1, y.2.2.1, y.2.2.2.1⟩, T.v10, T.v13, T.f44, T.f93, T.f50, T.f94, T.f95, T.f97, T.f83, ⟨T.L.inj, fun i hi => A.kp.keep _ _ (fun z => (C.fn _ z).2.2.2.2.2.2 i hi rfl) (T.L.at' i hi), T.L.lo⟩, ⟨A.kp.keep _ _ (fun z => (C.fn _ z).2.2.2.2.1 rfl) T.W.lst, fun x hx => A.kp.keep _ _ (fun z => (C.fn _ z).2.2.2.2.2.1 x hx rfl) (T.W.tup x hx)⟩, A.rs⟩
theorem SF.set (C : LC kP kD kT kW k a ws F) {i : Nat} (hi : i < 6) {x : List Int} : SF N to dues hands cv fr (h.set (a i) (.list (x.map .int))) kP kD kT kW k ws a (updN f i x) F w S s :=
 have n := C.na i hi
 have e0 := T.L.at' i hi
 ⟨T.B.one (T.L.lo i hi) ⟨n.1, n.2.1, n.2.2.1⟩, T.v10, T.v13, T.f44, T.f93, T.f50, T.f94, T.f95, T.f97, T.f83, T.L.set hi, ⟨get_set T.W.lst n.2.2.2, fun y hy => get_set (T.W.tup y hy) (ne_of_get e0 (T.W.tup y hy) nofun)⟩, T.R.move (Nat.le_of_eq List.length_set.symm) fun j o z e => get_set e fun y => z.elim (fun z => (C.fn j z).2.2.2.2.2.2 i hi y.symm) fun z => ne_of_get e0 T.R.inst nofun (y.trans z)⟩
theorem SF.fs {x : Nat} {v : AV} (hx : x ≠ 44 ∧ x ≠ 93 ∧ x ≠ 50 ∧ x ≠ 94 ∧ x ≠ 95 ∧ x ≠ 97 ∧ x ≠ 83) : SF N to dues hands cv (fr.set x v) h kP kD kT kW k ws a f F w S s :=
 ⟨T.B.fs, T.v10, T.v13, (if_neg hx.1.symm).trans T.f44, (if_neg hx.2.1.symm).trans T.f93, (if_neg hx.2.2.1.symm).trans T.f50, (if_neg hx.2.2.2.1.symm).trans T.f94, (if_neg hx.2.2.2.2.1.symm).trans T.f95, (if_neg hx.2.2.2.2.2.1.symm).trans T.f97, (if_neg hx.2.2.2.2.2.2.symm).trans T.f83, T.L, T.W, T.R⟩
end
end Mine
namespace Mine
theorem gn_mid {P L R : List Int} {i : Nat} (h : i < L.length) : gn (P ++ L ++ R) (P.length + i) = gn L i := by
 unfold gn
 rw [List.append_assoc, List.getD_eq_getElem?_getD, List.getElem?_append_right (Nat.le_add_right _ _), Nat.add_sub_cancel_left, List.getElem?_append_left h, List.getD_eq_getElem?_getD]
theorem line_take {P L R : List Int} {x : Int} {r : Nat} (l0 : P.length ≤ r) (l1 : r ≤ P.length + L.length) : (P ++ L ++ R).take r ++ x :: (P ++ L ++ R).drop r = P ++ (L.take (r - P.length) ++ x :: L.drop (r - P.length)) ++ R := by
 obtain ⟨m, e⟩ := Nat.exists_eq_add_of_le l0
 subst e
 have lm : m ≤ L.length := by lia
 rw [Nat.add_sub_cancel_left, List.append_assoc, List.take_append, List.drop_append, List.take_of_length_le (Nat.le_add_right _ _), List.drop_eq_nil_of_le (Nat.le_add_right _ _), Nat.add_sub_cancel_left, List.nil_append, List.take_append_of_le_length lm, List.drop_append_of_le_length lm]
 simp only [List.append_assoc, List.cons_append]
theorem line_at {P L R : List Int} {b : Int → Int} {x : Int} {r : Nat} (a : At (fun m => decide (b (gn (P ++ L ++ R) m) ≤ b x)) P.length (P.length + L.length) r) : At (fun i => decide (b (L.getD i 0) ≤ b x)) 0 L.length (r - P.length) := by
 have l0 := a.l0
 have l1 := a.l1
 refine ⟨Nat.zero_le _, by lia, fun i _ h => ?_, fun i h h' => ?_⟩
 ·have := a.left (P.length + i) (Nat.le_add_right _ _) (by lia)
  rw [gn_mid (by lia)] at this; exact this
 ·have := a.right (P.length + i) (by lia) (by lia)
  rw [gn_mid h'] at this; exact this
theorem line_mono {P L R : List Int} {b : Int → Int} {x : Int} (pw : L.Pairwise fun y z => b y ≤ b z) : ∀ i j, P.length ≤ i → i ≤ j → j < P.length + L.length → decide (b (gn (P ++ L ++ R) j) ≤ b x) = true → decide (b (gn (P ++ L ++ R) i) ≤ b x) = true := fun i j l0 l1 l2 z => by
 obtain ⟨m, e⟩ := Nat.exists_eq_add_of_le l0
 obtain ⟨m', e'⟩ := Nat.exists_eq_add_of_le (Nat.le_trans l0 l1)
 subst e e'
 have lm : m < L.length := by lia
 have lm' : m' < L.length := by lia
 rw [gn_mid lm'] at z
 rw [gn_mid lm]
 have z := of_decide_eq_true z
 refine decide_eq_true ?_
 rcases Nat.lt_or_eq_of_le (show m ≤ m' by lia) with c | c
 ·have := (List.pairwise_iff_getElem.mp pw) m m' lm lm' c
  have e1 : gn L m = L[m] := by unfold gn; rw [List.getD_eq_getElem?_getD, List.getElem?_eq_getElem lm]; rfl
  have e2 : gn L m' = L[m'] := by unfold gn; rw [List.getD_eq_getElem?_getD, List.getElem?_eq_getElem lm']; rfl
  rw [e2] at z; rw [e1]; exact Int.le_trans this z
 ·rw [c]; exact z
end Mine
namespace Mine
section
variable {adds : List (Int × List Int)} {B S : Sr} {H D l Wt tn : List Int} (b : Bt adds B) (hs : ∀ x, (B.su x).length ≤ 40000) (hk : B.ks.length ≤ 200)
include b hs hk
theorem step_ki (K : KI adds B S H D l) (wn : Wt.Nodup) (wm : ∀ x, x ∈ Wt ↔ x ∈ H ∧ x ∉ D) (tm : ∀ x ∈ tn, x ∈ Wt ++ l) (nt : tn.Nodup) :
  (Wt ++ l).Nodup ∧ (∀ x ∈ l, x ∈ S.ks) ∧ DoneOk (S.ready l) tn ∧ (∃ l', (S.ready l).rd = some l') ∧ (∃ l', KI adds B (tn.foldl Sr.done1 (S.ready l)) (H ++ l) (D ++ tn) l') ∧ ((Wt ++ l).filter fun x => decide (x ∉ tn)).Nodup ∧ ∀ x, x ∈ (Wt ++ l).filter (fun x => decide (x ∉ tn)) ↔ x ∈ H ++ l ∧ x ∉ D ++ tn := by
 have K1 := ki_ready b K
 have nl : ∀ x ∈ l, x ∉ D := fun x h d => K.lh x h (K.dh x d)
 have mm : ∀ x, x ∈ Wt ++ l ↔ x ∈ H ++ l ∧ x ∉ D := fun x => by
  rw [List.mem_append, List.mem_append, wm x]
  exact ⟨fun z => z.elim (fun z => ⟨.inl z.1, z.2⟩) fun z => ⟨.inr z, nl x z⟩, fun z => z.1.elim (fun y => .inl ⟨y, z.2⟩) .inr⟩
 have nd : (Wt ++ l).Nodup := List.nodup_append.mpr ⟨wn, K.ln, fun x hx c hc z => K.lh c hc (z ▸ ((wm x).mp hx).1)⟩
 have dn := ki_dones b hs hk tn K1 (fun x hx => (mm x).mp (tm x hx)) nt
 refine ⟨nd, (KI.ll b hs hk K).2, dn.1, ⟨_, K1.rd⟩, dn.2, nd.filter _, fun x => ?_⟩
 rw [List.mem_filter, decide_eq_true_iff, mm x, List.mem_append (s := D)]
 exact ⟨fun z => ⟨z.1.1, fun y => y.elim z.1.2 z.2⟩, fun z => ⟨⟨z.1, fun y => z.2 (.inl y)⟩, fun y => z.2 (.inr y)⟩⟩
end
theorem turn_of {bb : Int → Int} {W : List Int} {m : Nat} (nd : W.Nodup) : (∀ x ∈ (srt bb W).take m, x ∈ W) ∧ ((srt bb W).take m).Nodup ∧ ((srt bb W).take m).length = min m W.length :=
 ⟨fun x h => (srt_perm bb W).mem_iff.mp (List.mem_of_mem_take h), ((srt_perm bb W).nodup_iff.mpr nd).sublist (List.take_sublist _ _), by rw [List.length_take, (srt_perm bb W).length_eq]⟩
end Mine
namespace Mine
structure Run (N h : Nat) (to : Nat → Nat) (b : Nat → Int) (E : Nat → Nat) (s : Nat) : Prop where
 rs : ∀ i, i < N → E i ≤ s
 r2 : ∀ i, i < N → to i < N → 0 < E (to i) → 0 < E i ∧ E i < E (to i)
 r3 : ∀ t, 1 ≤ t → cnt N (fun i => decide (E i = t)) ≤ h
 r4 : ∀ i t, i < N → 1 ≤ t → t < E i ∨ (E i = 0 ∧ t ≤ s) → (∀ p, p < N → to p = i → 0 < E p ∧ E p < t) → h ≤ cnt N fun j => decide (E j = t) && decide (b j ≤ b i)
section
variable {N h : Nat} {to : Nat → Nat} {b : Nat → Int} {E E' : Nat → Nat} {s : Nat} {W T : Nat → Bool}
theorem Run.step (R : Run N h to b E s) (w : ∀ i, i < N → (W i = true ↔ E i = 0 ∧ ∀ p, p < N → to p = i → 0 < E p)) (tw : ∀ i, i < N → T i = true → W i = true) (tc : cnt N T ≤ h)
  (tf : ∀ i, i < N → W i = true → T i = false → h ≤ cnt N fun j => T j && decide (b j ≤ b i)) (eE : ∀ i, i < N → E' i = if T i = true then s + 1 else E i) : Run N h to b E' (s + 1) := by
 have eT : ∀ i, i < N → T i = true → E i = 0 ∧ E' i = s + 1 := fun i hi t => ⟨((w i hi).mp (tw i hi t)).1, by rw [eE i hi, if_pos t]⟩
 have eF : ∀ i, i < N → 0 < E i → E' i = E i := fun i hi z => by
  rw [eE i hi]
  split
  ·next t => have := (eT i hi t).1; lia
  ·rfl
 have back : ∀ p, p < N → 0 < E' p → E' p ≤ s → E p = E' p := fun p hp z l => by
  rw [eE p hp] at z l ⊢
  split at l
  ·lia
  ·next t => rw [if_neg t]
 have keep : ∀ i t, 1 ≤ t → h ≤ cnt N (fun j => decide (E j = t) && decide (b j ≤ b i)) → h ≤ cnt N fun j => decide (E' j = t) && decide (b j ≤ b i) := fun i t l q => Nat.le_trans q <| cnt_mono fun j hj z => by
  rw [Bool.and_eq_true, decide_eq_true_iff] at z ⊢
  exact ⟨by rw [eF j hj (by lia)]; exact z.1, z.2⟩
 refine ⟨fun i hi => ?_, fun i hi ti z => ?_, fun t ht => ?_, fun i t hi ht c pr => ?_⟩
 ·rw [eE i hi]; have := R.rs i hi; split <;> lia
 ·cases ct : T (to i) with
  | true =>
   have e := ((w _ ti).mp (tw _ ti ct)).2 i hi rfl
   have := R.rs i hi
   rw [eF i hi e, (eT _ ti ct).2]; lia
  | false =>
   have et : E' (to i) = E (to i) := by rw [eE _ ti, if_neg (by rw [ct]; decide)]
   rw [et] at z ⊢
   have q := R.r2 i hi ti z
   rw [eF i hi q.1]; exact q
 ·by_cases c : t = s + 1
  ·subst c
   refine Nat.le_trans (cnt_mono fun i hi z => ?_) tc
   have z := of_decide_eq_true z
   rw [eE i hi] at z
   have := R.rs i hi
   split at z
   ·assumption
   ·lia
  ·refine Nat.le_trans (cnt_mono fun i hi z => ?_) (R.r3 t ht)
   have z := of_decide_eq_true z
   rw [eE i hi] at z
   split at z
   ·lia
   ·exact decide_eq_true z
 ·have old : t ≤ s → (t < E i ∨ (E i = 0 ∧ t ≤ s)) → h ≤ cnt N fun j => decide (E' j = t) && decide (b j ≤ b i) := fun l c => keep i t ht <| R.r4 i t hi ht c fun p hp e => by
   have q := pr p hp e
   rw [back p hp q.1 (by lia)]; exact q
  cases ct : T i with
  | true =>
   have e := eT i hi ct
   exact old (by lia) (.inr ⟨e.1, by lia⟩)
  | false =>
   have e : E' i = E i := by rw [eE i hi, if_neg (by rw [ct]; decide)]
   rw [e] at c
   have := R.rs i hi
   rcases Nat.lt_or_ge s t with l | l
   ·have ei : E i = 0 := by lia
    have et : t = s + 1 := by lia
    subst et
    have wi := (w i hi).mpr ⟨ei, fun p hp q => by
     have q := pr p hp q
     rw [back p hp q.1 (by lia)]; exact q.1⟩
    refine Nat.le_trans (tf i hi wi ct) <| cnt_mono fun j hj z => ?_
    rw [Bool.and_eq_true] at z ⊢
    exact ⟨decide_eq_true (eT j hj z.1).2, z.2⟩
   ·exact old l (c.elim .inl fun z => .inr ⟨z.1, l⟩)
theorem Run.init (z : ∀ i, i < N → E i = 0) : Run N h to b E 0 := by
 refine ⟨fun i hi => Nat.le_of_eq (z i hi), fun i hi ti q => absurd (z _ ti) (Nat.ne_of_gt q), fun t ht => ?_, fun i t hi ht c => ?_⟩
 ·refine Nat.le_trans (cnt_mono (q := fun _ => false) fun i hi y => ?_) (by unfold cnt; rw [List.countP_false]; exact Nat.zero_le _)
  have := of_decide_eq_true y
  have := z i hi
  lia
 ·have := z i hi
  lia
theorem Run.sch {d : Nat → Int} (R : Run N h to b E s) (hp : 0 < h) (up : ∀ i, i < N → i < to i ∧ to i ≤ N) (bd : ∀ i, i < N → b i = if to i < N then min (d i) (b (to i) - 1) else d i) (all : ∀ i, i < N → 1 ≤ E i) : Sch N h to d b E := by
 refine ⟨hp, up, bd, all, fun i hi ti => (R.r2 i hi ti (all _ ti)).2, fun t => ?_, fun i t hi ht l pr => R.r4 i t hi ht (.inl l) fun p hq e => ⟨all p hq, pr p hq e⟩⟩
 rcases Nat.eq_zero_or_pos t with z | z
 ·refine Nat.le_trans (cnt_mono (q := fun _ => false) fun i hi y => ?_) (by unfold cnt; rw [List.countP_false]; exact Nat.zero_le _)
  have := of_decide_eq_true y
  have := all i hi
  lia
 ·exact R.r3 t z
end
end Mine
namespace Mine
noncomputable abbrev bI (bs : List Int) (x : Int) : Int := gn bs x.toNat
section
variable {n : Nat} {h : Hp} {kk kB i : Nat} {bs : List Int}
theorem key16 (hk : h[kk]? = some (.clos 16 [(90, 13)])) (o13 : h[13]? = some (.cell (some (.ref kB)))) (oB : h[kB]? = some (.list (bs.map .int))) (hi : i < bs.length) :
  (go (n + 5)).cl (.ref kk) [.int (i : Int)] [] h fun v h' => v = .ref h.length ∧ h' = h ++ [.list [.int (gn bs i)]] := by
 refine cLam (f := g06_16) (b := [(60, .int (i : Int))]) (h1 := h) hk rfl rfl rfl ?_
 have e2 : (enterF g06_16 [(90, 13)] [(60, AV.int (i : Int))] h).2 = h := List.append_nil h
 rw [e2]
 exact xRet <| eList <| vCons <| eIdx <| eCel (k := 13) rfl o13 <| eLoc rfl <| gIx oB hi <| vNil ⟨rfl, rfl⟩
theorem key17 (hk : h[kk]? = some (.clos 17 [(90, 13)])) (o13 : h[13]? = some (.cell (some (.ref kB)))) (oB : h[kB]? = some (.list (bs.map .int))) (hi : i < bs.length) :
  (go (n + 5)).cl (.ref kk) [.int (i : Int)] [] h fun v h' => v = .int (gn bs i) ∧ h' = h := by
 refine cLam (f := g06_17) (b := [(60, .int (i : Int))]) (h1 := h) hk rfl rfl rfl ?_
 have e2 : (enterF g06_17 [(90, 13)] [(60, AV.int (i : Int))] h).2 = h := List.append_nil h
 rw [e2]
 exact xRet <| eIdx <| eCel (k := 13) rfl o13 <| eLoc rfl <| gIx oB hi ⟨rfl, rfl⟩
theorem ins_key {kl i : Nat} {P L R : List Int} {Q : AV → Hp → Prop} (hk : h[kk]? = some (.clos 16 [(90, 13)])) (o13 : h[13]? = some (.cell (some (.ref kB)))) (oB : h[kB]? = some (.list (bs.map .int))) (oL : h[kl]? = some (.list ((P ++ L ++ R).map .int))) (hi : i < bs.length) (hL : ∀ x ∈ L, ∃ j, j < bs.length ∧ x = (j : Int)) (pw : L.Pairwise fun y z => bI bs y ≤ bI bs z) (ln : (P ++ L ++ R).length ≤ 1000)
  (q : ∀ h' r, Gr h h' → At (fun m => decide (bI bs (L.getD m 0) ≤ bI bs i)) 0 L.length r → Q .none (h'.set kl (.list ((P ++ (L.take r ++ (i : Int) :: L.drop r) ++ R).map .int)))) :
  (go (n + 15)).cl (.fn 9) [.ref kl, .int (i : Int), .int (P.length : Int), .int ((P.length + L.length : Nat) : Int)] [(41, .ref kk)] h Q := by
 have lr : P.length + L.length ≤ (P ++ L ++ R).length := by rw [List.length_append, List.length_append]; exact Nat.le_add_right _ _
 refine f9_key (n := n + 2) (row := (P ++ L ++ R).map .int) (lo := P.length) (hi := P.length + L.length) (hv := .int ((P.length + L.length : Nat) : Int)) (.inr rfl) (.inr ⟨rfl, by rw [List.length_map]; exact lr⟩) (Nat.le_add_right _ _) (Nat.lt_of_le_of_lt (Nat.le_trans lr ln) (by decide)) (by rw [List.length_map]; lia) (fun m => decide (bI bs (gn (P ++ L ++ R) m) ≤ bI bs i)) (line_mono (b := bI bs) pw) (Gr h)
  (cl_mono (key16 (n := n + 5) hk o13 oB hi) fun xk h1 z => ?_) fun h' r g _ a => ?_
 ·obtain ⟨e1, e2⟩ := z
  subst e1 e2
  have g1 : Gr h (h ++ [.list [.int (gn bs i)]]) := Kp.refl.more
  refine ⟨Gr (h ++ [.list [.int (gn bs i)]]), Kp.refl, fun h' g => ⟨(g1.tr g).get oL, g1.tr g⟩, fun h' m v g l0 l1 ev => ?_⟩
  obtain ⟨m', e⟩ := Nat.exists_eq_add_of_le l0
  subst e
  have lm : m' < L.length := by lia
  have em := gn_mid (P := P) (R := R) lm
  have lx : P.length + m' < (P ++ L ++ R).length := Nat.lt_of_lt_of_le l1 lr
  rw [List.getElem?_map, gn_get lx, em] at ev
  have mem : gn L m' ∈ L := List.mem_of_getElem? (gn_get lm)
  obtain ⟨j, hj, ej⟩ := hL _ mem
  cases ev
  rw [ej]
  have g' := g1.tr g
  refine cl_mono (key16 (n := n) (g'.get hk) (g'.get o13) (g'.get oB) hj) fun u h2 z => ?_
  obtain ⟨e1, e2⟩ := z
  subst e1 e2
  refine ⟨fun C hC => .lt1 (get_app (g.get tup_at)) tup_at ?_, g.more⟩
  have : (decide (bI bs (gn (P ++ L ++ R) (P.length + m')) ≤ bI bs (i : Int)) == false) = decide (gn bs i < gn bs j) := by
   rw [em, ej]
   show (decide (gn bs j ≤ gn bs i) == false) = _
   by_cases c : gn bs j ≤ gn bs i
   ·rw [decide_eq_true c, decide_eq_false (Int.not_lt.mpr c)]; rfl
   ·rw [decide_eq_false c, decide_eq_true (Int.not_le.mp c)]; rfl
  rw [← this]; exact hC
 ·have l0 := a.l0
  have l1 := a.l1
  have := q h' (r - P.length) g (line_at a)
  rw [← line_take l0 l1, List.map_append, List.map_cons, List.map_take, List.map_drop] at this
  exact this
end
end Mine
namespace Mine
structure LI6 (bs P Wt : List Int) (z : Int) (f : Nat → List Int) : Prop where
 f0 : f 0 = P
 f1 : f 1 = P ++ srt (bI bs) Wt ++ [z]
 f2 : f 2 = (P ++ srt (bI bs) Wt).map (bI bs)
 f3 : f 3 = Wt
 f5 : f 5 = bs
theorem at_map {b : Int → Int} {L : List Int} {k : Int} {r : Nat} (a : At (fun i => decide ((L.map b).getD i 0 ≤ k)) 0 (L.map b).length r) : At (fun i => decide (b (L.getD i 0) ≤ k)) 0 L.length r := by
 have e : ∀ i, i < L.length → (L.map b).getD i 0 = b (L.getD i 0) := fun i h => by rw [List.getD_eq_getElem?_getD, List.getElem?_map, List.getD_eq_getElem?_getD, List.getElem?_eq_getElem h]; rfl
 have l1 := a.l1
 rw [List.length_map] at l1
 refine ⟨a.l0, l1, fun i l h => ?_, fun i h h' => ?_⟩
 ·have := a.left i l h
  rw [e i (Nat.lt_of_lt_of_le h l1)] at this; exact this
 ·have := a.right i h (by rw [List.length_map]; exact h')
  rw [e i h'] at this; exact this
section
variable {n N : Nat} {to : Nat → Nat} {dues : List Int} {hands : Int} {cv : Nat → Option AV} {fr : Fm} {h : Hp} {kP kD kT kW k : Nat} {ws : List (Nat × Int × Int)} {a : Nat → Nat} {f : Nat → List Int} {F : Nat → Prop} {w : Wit} {S : Sr} {s : Nat} {bs P Wt : List Int} {z : Int}
theorem in_turn {i : Nat} {K : AFlow → Fm → Hp → Prop} (C : LC kP kD kT kW k a ws F) (T : SF N to dues hands cv fr h kP kD kT kW k ws a f F w S s) (I : LI6 bs P Wt z f) (hi : i < bs.length) (hW : ∀ x ∈ Wt, ∃ j, j < bs.length ∧ x = (j : Int)) (lP : P.length ≤ 100) (lW : Wt.length ≤ 100)
  (q : ∀ fr' h' f', SF N to dues hands cv fr' h' kP kD kT kW k ws a f' F w S s → LI6 bs P (Wt ++ [(i : Int)]) z f' → f' 4 = f 4 → (∀ (j : Nat) (o : AObj), (∀ i, i < 6 → j ≠ a i) → h[j]? = some o → h'[j]? = some o) → K .next fr' h') :
  exStep (go (n + 38)) [.expr (.meth (.loc 95) 0 [(.loc 24)] []), .ite (.cmp .isn (.call (.fn 9) [(.loc 50), (.loc 24), (.prim .len [(.loc 93)]), (.bin .sub (.prim .len [(.loc 50)]) (.int 1))] [] [41] [(.lam 16)]) .none) [.ret (.bool false)] [], .ite (.cmp .isn (.call (.fn 9) [(.loc 94), (.idx (.cel 90) (.loc 24)), (.prim .len [(.loc 93)])] [] [] []) .none) [.ret (.bool false)] []] (fr.set 24 (.int (i : Int))) h K := by
 have ls : (srt (bI bs) Wt).length = Wt.length := (srt_perm _ _).length_eq
 have T := T.fs (x := 24) (v := .int (i : Int)) (by decide)
 have o3 := T.L.at' 3 (by decide)
 refine xExpr <| eMeth (by decide) <| eLoc T.f95 ⟨a 3, _, rfl, o3, vCons <| eLoc rfl <| vNil <| bAppend o3 (by rw [List.length_map, I.f3]; lia) ?_⟩
 have T1 := T.set C (i := 3) (by decide) (x := Wt ++ [(i : Int)])
 rw [I.f3, show Wt.map AV.int ++ [AV.int (i : Int)] = (Wt ++ [(i : Int)]).map .int by rw [List.map_append]; rfl]
 have o0 := T1.L.at' 0 (by decide)
 have o1 := T1.L.at' 1 (by decide)
 have o5 := T1.L.at' 5 (by decide)
 rw [show updN f 3 (Wt ++ [(i : Int)]) 0 = P from I.f0] at o0
 rw [show updN f 3 (Wt ++ [(i : Int)]) 1 = _ from I.f1] at o1
 rw [show updN f 3 (Wt ++ [(i : Int)]) 5 = _ from I.f5] at o5
 have k1 : ∀ (j : Nat) (o : AObj), (∀ i, i < 6 → j ≠ a i) → h[j]? = some o → (h.set (a 3) (.list ((Wt ++ [(i : Int)]).map .int)))[j]? = some o := fun j o hj e => get_set e fun y => hj 3 (by decide) y.symm
 generalize h.set (a 3) (.list ((Wt ++ [(i : Int)]).map .int)) = h1 at *
 have ll : (P ++ srt (bI bs) Wt ++ [z]).length = P.length + Wt.length + 1 := by rw [List.length_append, List.length_append, ls]; rfl
 refine xIteF <| eCmp <| eCall <| eFn <| vCons <| eLoc T1.f50 <| vCons <| eLoc rfl <| vCons <| ePrim <| vCons <| eLoc T1.f93 <| vNil <| .len _ (seq_l o0) <| vCons <| eBin <| ePrim <| vCons <| eLoc T1.f50 <| vNil <| .len _ (seq_l o1) <| eInt <| oSub <| vNil <| vCons <| eLam (f := g06_16) (cs := [(90, 13)]) rfl (by show ((fr.set 24 (.int (i : Int))).cel 90).bind _ = _; rw [T1.B.cx.cel]; rfl) <| vNil ?_
 rw [List.length_map, List.length_map, ll, show (((P.length + Wt.length + 1 : Nat) : Int) - 1) = ((P.length + (srt (bI bs) Wt).length : Nat) : Int) by rw [ls]; lia]
 have g1 : Gr h1 (h1 ++ [.clos 16 [(90, 13)]]) := Kp.refl.more
 have c13 : ∀ {h2 : Hp}, Gr h1 h2 → h2[13]? = some (.cell (some (.ref (a 5)))) := fun g => (g.get (T1.B.cx.cells 13 (by decide) (by decide))).trans (by rw [T1.v13])
 refine ins_key (n := n + 21) (bs := bs) (i := i) (P := P) (L := srt (bI bs) Wt) (R := [z]) tup_at (c13 g1) (g1.get o5) (g1.get o1) hi (fun x hx => hW x ((srt_perm _ _).mem_iff.mp hx)) srt_pw (by rw [ll]; lia) fun h2 r g2 at1 => ?_
 have e1 := srt_snoc (b := bI bs) (w := Wt) (x := (i : Int)) at1
 rw [← e1]
 have T2 := (T1.gr (g1.tr g2)).set C (i := 1) (by decide) (x := P ++ srt (bI bs) (Wt ++ [(i : Int)]) ++ [z])
 refine eNone (.isn ⟨rfl, ?_⟩)
 have p0 := T2.L.at' 0 (by decide)
 have p2 := T2.L.at' 2 (by decide)
 have p5 := T2.L.at' 5 (by decide)
 rw [show updN (updN f 3 (Wt ++ [(i : Int)])) 1 (P ++ srt (bI bs) (Wt ++ [(i : Int)]) ++ [z]) 0 = P from I.f0] at p0
 rw [show updN (updN f 3 (Wt ++ [(i : Int)])) 1 (P ++ srt (bI bs) (Wt ++ [(i : Int)]) ++ [z]) 2 = _ from I.f2] at p2
 rw [show updN (updN f 3 (Wt ++ [(i : Int)])) 1 (P ++ srt (bI bs) (Wt ++ [(i : Int)]) ++ [z]) 5 = bs from I.f5] at p5
 have k3 : ∀ (j : Nat) (o : AObj), (∀ i, i < 6 → j ≠ a i) → h[j]? = some o → (h2.set (a 1) (.list ((P ++ srt (bI bs) (Wt ++ [(i : Int)]) ++ [z]).map .int)))[j]? = some o := fun j o hj e => get_set ((g1.tr g2).get (k1 j o hj e)) fun y => hj 1 (by decide) y.symm
 generalize h2.set (a 1) (.list ((P ++ srt (bI bs) (Wt ++ [(i : Int)]) ++ [z]).map .int)) = h3 at *
 have em : (P ++ srt (bI bs) Wt).map (bI bs) = P.map (bI bs) ++ (srt (bI bs) Wt).map (bI bs) ++ [] := by rw [List.append_nil, List.map_append]
 rw [em] at p2
 have pm : ((srt (bI bs) Wt).map (bI bs)).Pairwise fun y z => id y ≤ id z := List.pairwise_map.mpr srt_pw
 have lm : (P.map (bI bs) ++ (srt (bI bs) Wt).map (bI bs) ++ []).length = (P.map (bI bs)).length + ((srt (bI bs) Wt).map (bI bs)).length := by rw [List.append_nil, List.length_append]
 refine xIteF <| eCmp <| eCall <| eFn <| vCons <| eLoc T2.f94 <| vCons <| eIdx <| T2.B.cx.ev rfl (by decide) T2.v13 <| eLoc rfl <| gIx p5 hi <| vCons <| ePrim <| vCons <| eLoc T2.f93 <| vNil <| .len _ (seq_l p0) <| vNil <| vNil ?_
 rw [List.length_map, ← List.length_map (f := bI bs) (as := P)]
 refine f9_plain (n := n + 23) p2 (fun x y l0 l1 l2 => ?_) (by rw [lm]; exact Nat.le_add_right _ _) (by rw [lm, List.length_map, List.length_map, ls]; exact Nat.lt_of_le_of_lt (Nat.add_le_add lP lW) (by decide)) (by rw [lm, List.length_map, List.length_map, ls]; lia) fun r2 at2 => eNone (.isn ⟨rfl, xNil ?_⟩)
 ·exact of_decide_eq_true (line_mono (b := id) (x := gn (P.map (bI bs) ++ (srt (bI bs) Wt).map (bI bs) ++ []) y) pm x y l0 l1 (by rw [← lm]; exact l2) (decide_eq_true (Int.le_refl _)))
 ·rw [lm] at at2
  have l0 := at2.l0
  have l1 := at2.l1
  have e2 := srt_snoc (b := bI bs) (w := Wt) (x := (i : Int)) (at_map (b := bI bs) (line_at (b := id) at2))
  have e3 : (P.map (bI bs) ++ (srt (bI bs) Wt).map (bI bs) ++ []).take r2 ++ gn bs i :: (P.map (bI bs) ++ (srt (bI bs) Wt).map (bI bs) ++ []).drop r2 = (P ++ srt (bI bs) (Wt ++ [(i : Int)])).map (bI bs) := by
   rw [line_take l0 l1, e2, List.append_nil, List.map_append, List.map_append, List.map_cons, List.map_take, List.map_drop]; rfl
  rw [e3]
  exact q _ _ _ (T2.set C (i := 2) (by decide)) ⟨I.f0, rfl, rfl, rfl, I.f5⟩ rfl fun j o hj e => get_set (k3 j o hj e) fun y => hj 2 (by decide) y.symm
end
end Mine
namespace Mine
section
variable {n N : Nat} {to : Nat → Nat} {dues : List Int} {hands : Int} {cv : Nat → Option AV} {fr : Fm} {h : Hp} {kP kD kT kW k : Nat} {ws : List (Nat × Int × Int)} {a : Nat → Nat} {f : Nat → List Int} {F : Nat → Prop} {w : Wit} {S : Sr} {s : Nat} {bs P Wt : List Int} {z : Int} {ss : List IStmt} {Q : AFlow → Fm → Hp → Prop}
inductive IJ6 (N : Nat) (to : Nat → Nat) (dues : List Int) (hands : Int) (cv : Nat → Option AV) (kP kD kT kW k : Nat) (ws : List (Nat × Int × Int)) (a : Nat → Nat) (f : Nat → List Int) (F : Nat → Prop) (w : Wit) (S : Sr) (s : Nat) (bs P Wt : List Int) (z : Int) (l : List Int) (t : Nat) (ds : List Int) (fr : Fm) (h : Hp) : Prop
 | mk (f' : Nat → List Int) (T : SF N to dues hands cv fr h kP kD kT kW k ws a f' F w S s) (I : LI6 bs P (Wt ++ ds) z f') (e4 : f' 4 = f 4) (et : h[t]? = some (.tuple (l.map .int))) : IJ6 N to dues hands cv kP kD kT kW k ws a f F w S s bs P Wt z l t ds fr h
theorem in_loop {l : List Int} (C : LC kP kD kT kW k a ws F) (T : SF N to dues hands cv fr h kP kD kT kW k ws a f F w S s) (I : LI6 bs P Wt z f) (hr : S.rd = some l) (hl : l.length ≤ 60) (hk : ∀ x ∈ l, x ∈ S.ks) (hx : ∀ x ∈ Wt ++ l, ∃ j, j < bs.length ∧ x = (j : Int)) (lP : P.length ≤ 100) (lW : (Wt ++ l).length ≤ 100)
  (q : ∀ fr' h' f', SF N to dues hands cv fr' h' kP kD kT kW k ws a f' F w (S.ready l) s → LI6 bs P (Wt ++ l) z f' → f' 4 = f 4 → exStep (go (n + 39)) ss fr' h' Q) :
  exStep (go (n + 39)) (.for (.one (.loc 24)) (.seq (.meth (.loc 44) 49 [] [])) [.expr (.meth (.loc 95) 0 [(.loc 24)] []), .ite (.cmp .isn (.call (.fn 9) [(.loc 50), (.loc 24), (.prim .len [(.loc 93)]), (.bin .sub (.prim .len [(.loc 50)]) (.int 1))] [] [41] [(.lam 16)]) .none) [.ret (.bool false)] [], .ite (.cmp .isn (.call (.fn 9) [(.loc 94), (.idx (.cel 90) (.loc 24)), (.prim .len [(.loc 93)])] [] [] []) .none) [.ret (.bool false)] []] :: ss) fr h Q := by
 refine xFor <| src_seq <| eOwn (j := 5) rfl <| eLoc T.f44 ⟨k, _, rfl, T.R.inst, vNil ?_⟩
 refine f5_spec (n := n + 28) T.R hr (Nat.le_trans hl (by decide)) hk C.kF fun h1 t A1 e1 lt => .mk e1 rfl ?_
 have T1 := T.aft C A1
 have ta : ∀ {h : Hp} {f : Nat → List Int} {fr : Fm} {S : Sr}, SF N to dues hands cv fr h kP kD kT kW k ws a f F w S s → h[t]? = some (.tuple (l.map .int)) → ∀ i, i < 6 → t ≠ a i := fun T e i hi => ne_of_get e (T.L.at' i hi) nofun
 refine fkD (n := n + 38) (fun x : Int => .one (.int x)) l (IJ6 N to dues hands cv kP kD kT kW k ws a f F w (S.ready l) s bs P Wt z l t) (by rw [List.map_map]; rfl) ⟨f, T1, by rw [List.append_nil]; exact I, rfl, e1⟩ (fun ds fr h j => IJ6.casesOn j fun _ _ _ _ et => et) (fun ds x rs fr h e j => IJ6.casesOn j fun f' T' I' e4 et => .mk ?_) fun fr h j => IJ6.casesOn j fun f' T' I' e4 et => q fr h f' T' I' e4
 have sub : ∀ y ∈ Wt ++ ds, y ∈ Wt ++ l := fun y hy => (List.mem_append.mp hy).elim (List.mem_append_left _) fun z => List.mem_append_right _ (e ▸ List.mem_append_left _ z)
 obtain ⟨j, hj, ej⟩ := hx x (List.mem_append_right _ (mem_mid e))
 subst ej
 have lds : l.length = ds.length + (rs.length + 1) := by rw [e, List.length_append]; rfl
 rw [List.length_append] at lW
 refine in_turn (n := n) C T' I' hj (fun y hy => hx y (sub y hy)) lP (by rw [List.length_append]; lia) fun fr2 h2 f2 T2 I2 e42 kk => ⟨f2, T2, by rw [← List.append_assoc]; exact I2, e42.trans e4, kk _ _ (ta T' et) et⟩
end
end Mine
namespace Mine
theorem slc_m1 {xs : List AV} {v : AV} : Slc (xs ++ [v]) .none (.int (-1)) .none xs := by
 have l : (xs ++ [v]).length = xs.length + 1 := List.length_append
 have e : boundHi (xs ++ [v]).length (.int (-1)) = some xs.length := congrArg some (by unfold clampI; rw [if_pos (by decide), l]; lia)
 have := Slc.std (rfl : boundLo (xs ++ [v]).length .none = some 0) e
 rw [List.drop_zero, List.take_left] at this
 exact this
theorem srt_keys {b : Int → Int} {w : List Int} : (sortS ((w.map b).zip (w.map AV.int))).map (·.2) = (srt b w).map .int := by
 have ez : (w.map b).zip (w.map AV.int) = (w.map fun x => (b x, x)).map fun p => (p.1, AV.int p.2) := by rw [List.zip_map', List.map_map]; rfl
 rw [ez, sortS_map, List.map_map]
 unfold srt
 rw [List.map_map]; rfl
section
variable {n N : Nat} {to : Nat → Nat} {dues : List Int} {hands : Int} {cv : Nat → Option AV} {fr : Fm} {h : Hp} {kP kD kT kW k : Nat} {ws : List (Nat × Int × Int)} {a : Nat → Nat} {f : Nat → List Int} {F : Nat → Prop} {w : Wit} {S : Sr} {s : Nat} {bs P Wt : List Int} {ss : List IStmt} {Q : AFlow → Fm → Hp → Prop}
theorem step_tests (T : SF N to dues hands cv fr h kP kD kT kW k ws a f F w S s) (I : LI6 bs P Wt ((N : Int) + 1) f) (hx : ∀ x ∈ P ++ Wt, ∃ j, j < bs.length ∧ x = (j : Int)) (lP : P.length ≤ 60) (lW : Wt.length ≤ 60) (q : ∀ h', Gr h h' → exStep (go (n + 39)) ss fr h' Q) :
  exStep (go (n + 39)) (.ite (.cmp .ne (.loc 50) (.bin .add (.bin .add (.loc 93) (.sortKey (.loc 95) (.lam 17))) (.list [(.bin .add (.cel 88) (.int 1))]))) [.ret (.bool false)] [] :: .ite (.cmp .ne (.loc 94) (.comp (.idx (.cel 90) (.loc 24)) (.mk (.one (.loc 24)) (.seq (.slice (.loc 50) .none (.neg (.int 1)) .none)) []) [] [] [90])) [.ret (.bool false)] [] :: ss) fr h Q := by
 have ls : (srt (bI bs) Wt).length = Wt.length := (srt_perm _ _).length_eq
 have o0 := T.L.at' 0 (by decide)
 have o1 := T.L.at' 1 (by decide)
 have o2 := T.L.at' 2 (by decide)
 have o3 := T.L.at' 3 (by decide)
 have o5 := T.L.at' 5 (by decide)
 rw [I.f0] at o0
 rw [I.f1] at o1
 rw [I.f2] at o2
 rw [I.f3] at o3
 rw [I.f5] at o5
 have c13 : ∀ {h2 : Hp}, Gr h h2 → h2[13]? = some (.cell (some (.ref (a 5)))) := fun g => (g.get (T.B.cx.cells 13 (by decide) (by decide))).trans (by rw [T.v13])
 have g1 : Gr h (h ++ [.clos 17 [(90, 13)]]) := Kp.refl.more
 refine xIteF <| eCmp <| eLoc T.f50 <| eBin <| eBin <| eLoc T.f93 <| eKey <| eLoc T.f95 <| eLam (f := g06_17) (cs := [(90, 13)]) rfl (by show (fr.cel 90).bind _ = _; rw [T.B.cx.cel]; rfl) ⟨_, _, rfl, .list (g1.get o3), by rw [List.length_map]; lia, keys_pure (val := bI bs) (fun x hx' => ?_) ?_⟩
 ·obtain ⟨j, hj, e⟩ := hx x (List.mem_append_right _ hx')
  rw [e]
  exact key17 (n := n + 30) tup_at (c13 g1) (g1.get o5) hj
 ·rw [srt_keys]
  refine oCat (.list (get_app (g1.get o0))) (.list tup_at) (by rw [List.length_map, List.length_map, ls]; lia) <| eList <| vCons <| eBin <| (T.B.gr (g1.more.more)).cx.ev rfl (by decide) T.B.v4 <| eInt <| oAdd <| vNil <| oCat (.list (get_app tup_at)) (.list tup_at) (by rw [List.length_append, List.length_map, List.length_map, ls]; show _ + 1 ≤ _; lia) ?_
  rw [show P.map AV.int ++ (srt (bI bs) Wt).map AV.int ++ [AV.int ((N : Int) + 1)] = (P ++ srt (bI bs) Wt ++ [(N : Int) + 1]).map .int by rw [List.map_append, List.map_append]; rfl]
  have g2 : Gr h (h ++ [AObj.clos 17 [(90, 13)]] ++ [AObj.list ((srt (bI bs) Wt).map .int)] ++ [AObj.list (P.map .int ++ (srt (bI bs) Wt).map .int)] ++ [AObj.list [.int ((N : Int) + 1)]] ++ [AObj.list ((P ++ srt (bI bs) Wt ++ [(N : Int) + 1]).map .int)]) := Kp.refl.more.more.more.more.more
  refine .neL (lints_l (g2.get o1)) (lints_l tup_at) ⟨by rw [decide_eq_true rfl]; rfl, ?_⟩
  generalize h ++ [AObj.clos 17 [(90, 13)]] ++ [AObj.list ((srt (bI bs) Wt).map .int)] ++ [AObj.list (P.map .int ++ (srt (bI bs) Wt).map .int)] ++ [AObj.list [.int ((N : Int) + 1)]] ++ [AObj.list ((P ++ srt (bI bs) Wt ++ [(N : Int) + 1]).map .int)] = h2 at *
  have T2 := T.gr g2
  have sl : Slc ((P ++ srt (bI bs) Wt ++ [(N : Int) + 1]).map AV.int) .none (.int (-1)) .none ((P ++ srt (bI bs) Wt).map .int) := by rw [List.map_append]; exact slc_m1
  have lP2 : (P ++ srt (bI bs) Wt).length ≤ 120 := by rw [List.length_append, ls]; lia
  refine xIteF <| eCmp <| eLoc T.f94 <| eComp <| src_seq <| eSlice <| eLoc T.f50 <| eNone <| eNeg <| eInt ⟨1, rfl, eNone <| .mk (g2.get o1) (by rw [List.length_map, List.length_append]; show _ + 1 ≤ _; lia) sl <| .mk tup_at rfl ?_⟩
  have T3 := T2.gr (h' := h2 ++ [.list ((P ++ srt (bI bs) Wt).map .int)]) Kp.refl.more
  refine ckP (n := n + 37) (fun x : Int => .one (.int x)) (P ++ srt (bI bs) Wt) (fun _ => true) (fun x => .int (bI bs x)) (by rw [List.map_map]; rfl) tup_at (by lia) (fun x hx' fr' ef => .mk ⟨rfl, rfl, ⟨rfl, rfl⟩, fun _ => ?_⟩) ?_
  ·have hx2 : x ∈ P ++ Wt := (List.mem_append.mp hx').elim (List.mem_append_left _) fun z => List.mem_append_right _ ((srt_perm _ _).mem_iff.mp z)
   obtain ⟨j, hj, e⟩ := hx x hx2
   subst e
   have ef : (fr'.set 24 (.int (j : Int))).cel = _ := ef
   exact eIdx <| T3.B.cx.evf ef rfl rfl (by decide) T3.v13 <| eLoc rfl <| gIx (get_app (g2.get o5)) hj ⟨rfl, rfl⟩
  ·rw [List.filter_eq_self.mpr fun _ _ => rfl, show (P ++ srt (bI bs) Wt).map (fun x => AV.int (bI bs x)) = ((P ++ srt (bI bs) Wt).map (bI bs)).map .int by rw [List.map_map]; rfl]
   exact .neL (lints_l (get_app (get_app (g2.get o2)))) (lints_l tup_at) ⟨by rw [decide_eq_true rfl]; rfl, q _ (g2.tr Kp.refl.more.more)⟩
end
end Mine
namespace Mine
theorem slc_in {P L : List AV} {v : AV} : Slc (P ++ L ++ [v]) (.int (P.length : Int)) (.int (-1)) .none L := by
 have l : (P ++ L ++ [v]).length = P.length + L.length + 1 := by rw [List.length_append, List.length_append]; rfl
 have e : boundHi (P ++ L ++ [v]).length (.int (-1)) = some (P.length + L.length) := congrArg some (by unfold clampI; rw [if_pos (by decide), l]; lia)
 have e' : boundLo (P ++ L ++ [v]).length (.int (P.length : Int)) = some P.length := congrArg some (clamp_n.trans (Nat.min_eq_left (by rw [l]; lia)))
 have := Slc.std e' e
 rw [show (P ++ L ++ [v]).take (P.length + L.length) = P ++ L from by rw [← List.length_append]; exact List.take_left, List.drop_left] at this
 exact this
section
variable {N : Nat} {to : Nat → Nat} {dues : List Int} {hands : Int} {cv : Nat → Option AV} {fr : Fm} {h : Hp} {kP kD kT kW k : Nat} {ws : List (Nat × Int × Int)} {a : Nat → Nat} {f : Nat → List Int} {F : Nat → Prop} {w : Wit} {S : Sr} {s : Nat} (T : SF N to dues hands cv fr h kP kD kT kW k ws a f F w S s)
include T
theorem SF.turn {v : AV} (f13 : ∀ j, F j → 13 < j) (hk : 11 ≠ k) (hW : 11 ≠ kW) (hw : ∀ x ∈ ws, 11 ≠ x.1) : SF N to dues hands (upn cv 11 v) fr (h.set 11 (.cell (some v))) kP kD kT kW k ws a f F w S s :=
 have ne : ∀ {j}, 13 < j → 11 ≠ j := fun l => Nat.ne_of_lt (Nat.lt_trans (by decide : 11 < 13) l)
 ⟨T.B.put (by decide), T.v10, T.v13, T.f44, T.f93, T.f50, T.f94, T.f95, T.f97, T.f83, ⟨T.L.inj, fun i hi => get_set (T.L.at' i hi) (ne (T.L.lo i hi)), T.L.lo⟩, ⟨get_set T.W.lst hW, fun x hx => get_set (T.W.tup x hx) (hw x hx)⟩, T.R.move (Nat.le_of_eq List.length_set.symm) fun j o z e => get_set e (z.elim (fun z => ne (f13 j z)) fun z => z ▸ hk)⟩
theorem SF.tick {v : AV} {s' : Nat} (e : v = .int (s' : Int)) : SF N to dues hands cv (fr.set 97 v) h kP kD kT kW k ws a f F w S s' :=
 ⟨T.B.fs, T.v10, T.v13, T.f44, T.f93, T.f50, T.f94, T.f95, by rw [e]; rfl, T.f83, T.L, T.W, T.R⟩
theorem SF.newW {xs : List Int} : SF N to dues hands cv (fr.set 95 (.ref h.length)) (h ++ [.list (xs.map .int)]) kP kD kT kW k ws (fun i => if i = 3 then h.length else a i) (updN f 3 xs) F w S s := by
 have lt : ∀ i, i < 6 → a i < h.length := fun i hi => lt_of_get (T.L.at' i hi)
 have g : Gr h (h ++ [.list (xs.map .int)]) := Kp.refl.more
 refine ⟨(T.B.gr g).fs, T.v10, T.v13, T.f44, T.f93, T.f50, T.f94, rfl, T.f97, T.f83, ⟨fun i j hi hj e => ?_, fun i hi => ?_, fun i hi => ?_⟩, T.W.gr g, T.R.grow _⟩
 ·by_cases c : i = 3
  ·rw [if_pos c] at e
   by_cases d : j = 3
   ·rw [c, d]
   ·rw [if_neg d] at e; exact absurd e (Nat.ne_of_gt (lt j hj))
  ·rw [if_neg c] at e
   by_cases d : j = 3
   ·rw [if_pos d] at e; exact absurd e (Nat.ne_of_lt (lt i hi))
   ·rw [if_neg d] at e; exact T.L.inj i j hi hj e
 ·unfold updN
  by_cases c : i = 3
  ·rw [if_pos c, if_pos c]; exact tup_at
  ·rw [if_neg c, if_neg c]; exact get_app (T.L.at' i hi)
 ·by_cases c : i = 3
  ·rw [if_pos c]; exact Nat.lt_trans (T.L.lo 3 (by decide)) (lt 3 (by decide))
  ·rw [if_neg c]; exact T.L.lo i hi
theorem SF.newC (C : LC kP kD kT kW k a ws F) : LC kP kD kT kW k (fun i => if i = 3 then h.length else a i) ws F := by
 refine ⟨fun i hi => ?_, fun j z => ⟨(C.fn j z).1, (C.fn j z).2.1, (C.fn j z).2.2.1, (C.fn j z).2.2.2.1, (C.fn j z).2.2.2.2.1, (C.fn j z).2.2.2.2.2.1, fun i hi => ?_⟩, C.kF⟩
 ·by_cases c : i = 3
  ·rw [if_pos c]
   exact ⟨Nat.ne_of_gt (lt_of_get T.B.oP), Nat.ne_of_gt (lt_of_get T.B.oD), Nat.ne_of_gt (lt_of_get T.B.oT), Nat.ne_of_gt (lt_of_get T.W.lst)⟩
  ·rw [if_neg c]; exact C.na i hi
 ·by_cases c : i = 3
  ·rw [if_pos c]; exact Nat.ne_of_lt (T.R.old j z)
  ·rw [if_neg c]; exact (C.fn j z).2.2.2.2.2.2 i hi
end
section
variable {n N : Nat} {to : Nat → Nat} {dues : List Int} {hands : Int} {cv : Nat → Option AV} {fr : Fm} {h : Hp} {kP kD kT kW k : Nat} {ws : List (Nat × Int × Int)} {a : Nat → Nat} {f : Nat → List Int} {F : Nat → Prop} {w : Wit} {S : Sr} {s : Nat} {ss : List IStmt} {Q : AFlow → Fm → Hp → Prop}
inductive EJ (N : Nat) (to : Nat → Nat) (dues : List Int) (hands : Int) (cv : Nat → Option AV) (kP kD kT kW k : Nat) (ws : List (Nat × Int × Int)) (a : Nat → Nat) (f : Nat → List Int) (F : Nat → Prop) (w : Wit) (S : Sr) (s : Nat) (kt : Nat) (tn ds : List Int) (fr : Fm) (h : Hp) : Prop
 | mk (es : List Int) (T : SF N to dues hands cv fr h kP kD kT kW k ws a (updN f 4 es) F w S s) (et : h[kt]? = some (.list (tn.map .int))) (el : es.length = N) (ev : ∀ i, i < N → gn es i = if (i : Int) ∈ ds then (s : Int) else gn (f 4) i) : EJ N to dues hands cv kP kD kT kW k ws a f F w S s kt tn ds fr h
theorem ends_loop {kt : Nat} {tn : List Int} (C : LC kP kD kT kW k a ws F) (T : SF N to dues hands cv fr h kP kD kT kW k ws a f F w S s) (v11 : cv 11 = some (.ref kt)) (et : h[kt]? = some (.list (tn.map .int))) (kta : ∀ i, i < 6 → kt ≠ a i) (htn : ∀ x ∈ tn, ∃ i, i < N ∧ x = (i : Int)) (el : (f 4).length = N)
  (q : ∀ fr' h' es, SF N to dues hands cv fr' h' kP kD kT kW k ws a (updN f 4 es) F w S s → h'[kt]? = some (.list (tn.map .int)) → es.length = N → (∀ i, i < N → gn es i = if (i : Int) ∈ tn then (s : Int) else gn (f 4) i) → exStep (go (n + 39)) ss fr' h' Q) :
  exStep (go (n + 39)) (.for (.one (.loc 24)) (.seq (.cel 98)) [.asg [.idx (.cel 96) (.loc 24)] (.loc 97)] :: ss) fr h Q := by
 have f4 : updN f 4 (f 4) = f := by
  funext j
  unfold updN
  by_cases c : j = 4
  ·rw [if_pos c, c]
  ·rw [if_neg c]
 refine xFor <| src_seq <| T.B.cx.ev rfl (by decide) v11 <| .mk et rfl ?_
 refine fkD (n := n + 38) (fun x : Int => .one (.int x)) tn (EJ N to dues hands cv kP kD kT kW k ws a f F w S s kt tn) (by rw [List.map_map]; rfl) ⟨f 4, by rw [f4]; exact T, et, el, fun i hi => (if_neg List.not_mem_nil).symm⟩ (fun ds fr h j => EJ.casesOn j fun _ _ et _ _ => et) (fun ds x rs fr h e j => EJ.casesOn j fun es T' et el ev => .mk ?_) fun fr h j => EJ.casesOn j fun es T' et el ev => q fr h es T' et el ev
 obtain ⟨i, hi, ei⟩ := htn x (mem_mid e)
 subst ei
 have T2 := T'.fs (x := 24) (v := .int (i : Int)) (by decide)
 have o4 := T2.L.at' 4 (by decide)
 refine xAsgI <| eLoc T2.f97 <| T2.B.cx.ev rfl (by decide) T2.v10 <| eLoc rfl <| .list o4 (Int.natCast_nonneg i) (by rw [List.length_map]; exact Int.ofNat_lt.mpr (show i < es.length from el.symm ▸ hi)) (xNil ?_)
 have T3 := T2.set C (i := 4) (by decide) (x := es.set i (s : Int))
 have e1 : updN (updN f 4 es) 4 (es.set i (s : Int)) = updN f 4 (es.set i (s : Int)) := by
  funext j
  unfold updN
  by_cases c : j = 4
  ·rw [if_pos c, if_pos c]
  ·rw [if_neg c, if_neg c, if_neg c]
 rw [e1, List.map_set] at T3
 refine ⟨es.set i (s : Int), T3, get_set et (kta 4 (by decide)).symm, by rw [List.length_set]; exact el, fun j hj => ?_⟩
 rw [gn_set (el.symm ▸ hi), ev j hj]
 by_cases c : j = i
 ·subst c; rw [if_pos rfl, if_pos (List.mem_append_right _ (.head _))]
 ·rw [if_neg c]
  by_cases d : (j : Int) ∈ ds
  ·rw [if_pos d, if_pos (List.mem_append_left _ d)]
  ·have nm : (j : Int) ∉ ds ++ [(i : Int)] := fun z => (List.mem_append.mp z).elim d fun z => c (Int.ofNat_inj.mp (List.mem_singleton.mp z))
   rw [if_neg d, if_neg nm]
end
end Mine
namespace Mine
section
variable {n N : Nat} {to : Nat → Nat} {dues : List Int} {hands : Int} {cv : Nat → Option AV} {fr : Fm} {h : Hp} {kP kD kT kW k : Nat} {ws : List (Nat × Int × Int)} {a : Nat → Nat} {f : Nat → List Int} {F : Nat → Prop} {w : Wit} {S : Sr} {s : Nat} {bs P Wt : List Int} {ss : List IStmt} {Q : AFlow → Fm → Hp → Prop}
theorem pick (C : LC kP kD kT kW k a ws F) (T : SF N to dues hands cv fr h kP kD kT kW k ws a f F w S s) (I : LI6 bs P Wt ((N : Int) + 1) f) (lP : P.length ≤ 60) (lW : Wt.length ≤ 60)
  (q : ∀ cv' fr' h' kt, SF N to dues hands cv' fr' h' kP kD kT kW k ws a f F w S (s + 1) → cv' 11 = some (.ref kt) → h'[kt]? = some (.list (((srt (bI bs) Wt).take hands.toNat).map .int)) → (∀ i, i < 6 → kt ≠ a i) → ¬F kt → exStep (go (n + 39)) ss fr' h' Q) :
  exStep (go (n + 39)) (.aug (.loc 97) .add (.int 1) :: .asg [.var (.cel 98)] (.slice (.slice (.loc 50) (.prim .len [(.loc 93)]) (.neg (.int 1)) .none) .none (.cel 86) .none) :: ss) fr h Q := by
 have ls : (srt (bI bs) Wt).length = Wt.length := (srt_perm _ _).length_eq
 refine xAug T.f97 <| eInt <| gAdd ?_
 have T1 := T.tick (v := .int ((s : Int) + 1)) (s' := s + 1) rfl
 have o0 := T1.L.at' 0 (by decide)
 have o1 := T1.L.at' 1 (by decide)
 rw [I.f0] at o0
 rw [I.f1] at o1
 have lt : ∀ i, i < 6 → a i < h.length := fun i hi => lt_of_get (T.L.at' i hi)
 have sl : Slc ((P ++ srt (bI bs) Wt ++ [(N : Int) + 1]).map AV.int) (.int (P.length : Int)) (.int (-1)) .none ((srt (bI bs) Wt).map .int) := by
  rw [List.map_append, List.map_append, show (P.length : Int) = ((P.map AV.int).length : Nat) by rw [List.length_map]]
  exact slc_in
 have lh : ((hands.toNat : Nat) : Int) = hands := Int.toNat_of_nonneg (by have := T.B.hd.1; lia)
 have s2 : Slc ((srt (bI bs) Wt).map AV.int) .none (.int hands) .none (((srt (bI bs) Wt).take hands.toNat).map .int) := by
  have := slc_hi (D := srt (bI bs) Wt) (r := hands.toNat)
  rw [lh] at this
  exact this
 refine xAsgC <| eSlice <| eSlice <| eLoc T1.f50 <| ePrim <| vCons <| eLoc T1.f93 <| vNil <| .len _ (seq_l o0) <| eNeg <| eInt ⟨1, rfl, eNone <| .mk o1 (by rw [List.length_map, List.length_append, List.length_append, ls]; show _ + 1 ≤ _; lia) (by rw [List.length_map]; exact sl) ?_⟩
 have T2 := T1.gr (h' := h ++ [.list ((srt (bI bs) Wt).map .int)]) Kp.refl.more
 refine eNone <| T2.B.cx.ev rfl (by decide) T2.B.v1 <| eNone <| .mk tup_at (by rw [List.length_map, ls]; lia) s2 ?_
 have c11 := T.B.cx.cells 11 (by decide) (by decide)
 have g3 : Gr h (h ++ [AObj.list ((srt (bI bs) Wt).map .int)] ++ [.list (((srt (bI bs) Wt).take hands.toNat).map .int)]) := Kp.refl.more.more
 have T3 := T1.gr g3
 have l13 : 13 < h.length := Nat.lt_trans (T.L.lo 0 (by decide)) (lt 0 (by decide))
 refine .mk (k := 11) (by rw [T3.B.cx.cel]; rfl) (T3.B.cx.cells 11 (by decide) (by decide)) ?_
 have kk : ∀ j, j < h.length → (h ++ [AObj.list ((srt (bI bs) Wt).map AV.int)]).length ≠ j := fun j hj e => by rw [List.length_append] at e; exact absurd (e ▸ hj) (Nat.not_lt.mpr (Nat.le_add_right _ _))
 refine q _ _ _ _ (T3.turn (fun j z => (C.fn j z).1) (ne_of_get c11 T.R.inst nofun) (ne_of_get c11 T.W.lst nofun) fun x hx => ne_of_get c11 (T.W.tup x hx) nofun) (if_pos rfl) (get_set tup_at fun e => kk 11 (Nat.lt_trans (by decide) l13) e.symm) (fun i hi => kk _ (lt i hi)) fun z => kk _ (T.R.old _ z) rfl
end
end Mine
namespace Mine
section
variable {n N : Nat} {to : Nat → Nat} {dues : List Int} {hands : Int} {cv : Nat → Option AV} {fr : Fm} {h : Hp} {kP kD kT kW k : Nat} {ws : List (Nat × Int × Int)} {a : Nat → Nat} {f : Nat → List Int} {F : Nat → Prop} {w : Wit} {S : Sr} {s : Nat} {bs P Wt tn : List Int} {ss : List IStmt} {Q : AFlow → Fm → Hp → Prop}
theorem told {kt : Nat} (C : LC kP kD kT kW k a ws F) (T : SF N to dues hands cv fr h kP kD kT kW k ws a f F w S s) (v11 : cv 11 = some (.ref kt)) (et : h[kt]? = some (.list (tn.map .int))) (kta : ∀ i, i < 6 → kt ≠ a i) (ktF : ¬F kt) (f0 : f 0 = P) (f3 : f 3 = Wt) (dn : DoneOk S tn) (hr : ∃ l, S.rd = some l) (lP : P.length ≤ 60) (lW : Wt.length ≤ 60) (lt : tn.length ≤ 60)
  (q : ∀ fr' h' a', LC kP kD kT kW k a' ws F → SF N to dues hands cv fr' h' kP kD kT kW k ws a' (updN (updN f 0 (P ++ tn)) 3 (Wt.filter fun x => decide (x ∉ tn))) F w (tn.foldl Sr.done1 S) s → a' 4 = a 4 → exStep (go (n + 39)) ss fr' h' Q) :
  exStep (go (n + 39)) (.expr (.meth (.loc 44) 51 [] [(.cel 98)]) :: .expr (.meth (.loc 93) 1 [(.cel 98)] []) :: .asg [.var (.loc 95)] (.comp (.loc 24) (.mk (.one (.loc 24)) (.seq (.loc 95)) [(.cmp .nmem (.loc 24) (.cel 98))]) [] [] [98]) :: ss) fr h Q := by
 refine xExpr <| eOwn (j := 7) rfl <| eLoc T.f44 ⟨k, _, rfl, T.R.inst, vNil <| T.B.cx.ev rfl (by decide) v11 ⟨_, seq_l et, by rw [List.length_map]; lia, ?_⟩⟩
 refine f7_spec (n := n + 26) T.R dn (by lia) hr C.kF fun h1 A1 => ?_
 have T1 := T.aft C A1
 have et1 := A1.kp.keep kt _ ktF et
 have o0 := T1.L.at' 0 (by decide)
 rw [f0] at o0
 refine xExpr <| eMeth (by decide) <| eLoc T1.f93 ⟨a 0, _, rfl, o0, vCons <| T1.B.cx.ev rfl (by decide) v11 <| vNil <| bExtend o0 (by rw [List.length_map]; lia) (.list et1) (by rw [List.length_map]; lia) ?_⟩
 rw [← List.map_append]
 have T2 := T1.set C (i := 0) (by decide) (x := P ++ tn)
 have et2 : (h1.set (a 0) (.list ((P ++ tn).map .int)))[kt]? = some (.list (tn.map .int)) := get_set et1 (kta 0 (by decide)).symm
 generalize h1.set (a 0) (.list ((P ++ tn).map .int)) = h2 at *
 have o3 := T2.L.at' 3 (by decide)
 rw [show updN f 0 (P ++ tn) 3 = Wt from f3] at o3
 refine xAsg <| eComp <| src_seq <| eLoc T2.f95 <| .mk o3 rfl ?_
 refine ckP (n := n + 38) (fun x : Int => .one (.int x)) Wt (fun x => decide (x ∉ tn)) .int (by rw [List.map_map]; rfl) o3 (by lia) (fun x hx' fr' ef => .mk ⟨rfl, rfl, ?_, fun _ => eLoc rfl ⟨rfl, rfl⟩⟩) ?_
 ·have ef : (fr'.set 24 (.int x)).cel = _ := ef
  refine eCmp <| eLoc rfl <| T2.B.cx.evf ef rfl rfl (by decide) v11 <| .nmem (lints_l et2) ⟨_, rfl, ?_⟩
  rw [← decide_not]
  by_cases c : x ∉ tn
  ·rw [decide_eq_true c]; exact ⟨rfl, rfl⟩
  ·rw [decide_eq_false c]; exact ⟨rfl, rfl⟩
 ·exact q _ _ _ (T2.newC C) T2.newW rfl
end
end Mine
namespace Mine
noncomputable def wb6 : List IStmt := [.for (.one (.loc 24)) (.seq (.meth (.loc 44) 49 [] [])) [.expr (.meth (.loc 95) 0 [(.loc 24)] []), .ite (.cmp .isn (.call (.fn 9) [(.loc 50), (.loc 24), (.prim .len [(.loc 93)]), (.bin .sub (.prim .len [(.loc 50)]) (.int 1))] [] [41] [(.lam 16)]) .none) [.ret (.bool false)] [], .ite (.cmp .isn (.call (.fn 9) [(.loc 94), (.idx (.cel 90) (.loc 24)), (.prim .len [(.loc 93)])] [] [] []) .none) [.ret (.bool false)] []], .ite (.cmp .ne (.loc 50) (.bin .add (.bin .add (.loc 93) (.sortKey (.loc 95) (.lam 17))) (.list [(.bin .add (.cel 88) (.int 1))]))) [.ret (.bool false)] [], .ite (.cmp .ne (.loc 94) (.comp (.idx (.cel 90) (.loc 24)) (.mk (.one (.loc 24)) (.seq (.slice (.loc 50) .none (.neg (.int 1)) .none)) []) [] [] [90])) [.ret (.bool false)] [], .aug (.loc 97) .add (.int 1), .asg [.var (.cel 98)] (.slice (.slice (.loc 50) (.prim .len [(.loc 93)]) (.neg (.int 1)) .none) .none (.cel 86) .none), .for (.one (.loc 24)) (.seq (.cel 98)) [.asg [.idx (.cel 96) (.loc 24)] (.loc 97)], .expr (.meth (.loc 44) 51 [] [(.cel 98)]), .expr (.meth (.loc 93) 1 [(.cel 98)] []), .asg [.var (.loc 95)] (.comp (.loc 24) (.mk (.one (.loc 24)) (.seq (.loc 95)) [(.cmp .nmem (.loc 24) (.cel 98))]) [] [] [98])]
section
variable {n N : Nat} {to : Nat → Nat} {dues : List Int} {hands : Int} {cv : Nat → Option AV} {fr : Fm} {h : Hp} {kP kD kT kW k : Nat} {ws : List (Nat × Int × Int)} {a : Nat → Nat} {f : Nat → List Int} {F : Nat → Prop} {w : Wit} {S : Sr} {s : Nat} {bs P Wt tn l : List Int} {Q : AFlow → Fm → Hp → Prop}
theorem step6 (C : LC kP kD kT kW k a ws F) (T : SF N to dues hands cv fr h kP kD kT kW k ws a f F w S s) (I : LI6 bs P Wt ((N : Int) + 1) f) (hr : S.rd = some l) (hl : l.length ≤ 60) (hks : ∀ x ∈ l, x ∈ S.ks) (hx : ∀ x ∈ P ++ (Wt ++ l), ∃ j, j < bs.length ∧ x = (j : Int)) (lP : P.length ≤ 60) (lW : (Wt ++ l).length ≤ 60) (nd : (Wt ++ l).Nodup) (etn : tn = (srt (bI bs) (Wt ++ l)).take hands.toNat) (dn : DoneOk (S.ready l) tn) (hr2 : ∃ l', (S.ready l).rd = some l') (htn : ∀ x ∈ tn, ∃ i, i < N ∧ x = (i : Int)) (el : (f 4).length = N)
  (q : ∀ cv' fr' h' a' f', LC kP kD kT kW k a' ws F → SF N to dues hands cv' fr' h' kP kD kT kW k ws a' f' F w (tn.foldl Sr.done1 (S.ready l)) (s + 1) → LI6 bs (P ++ tn) ((Wt ++ l).filter fun x => decide (x ∉ tn)) ((N : Int) + 1) f' → (f' 4).length = N → (∀ i, i < N → gn (f' 4) i = if (i : Int) ∈ tn then ((s + 1 : Nat) : Int) else gn (f 4) i) → Q .next fr' h') :
  exStep (go (n + 39)) wb6 fr h Q := by
 have lt : tn.length ≤ 60 := by
  rw [etn, List.length_take, (srt_perm _ _).length_eq]
  exact Nat.le_trans (Nat.min_le_right _ _) lW
 refine in_loop C T I hr hl hks (fun x h => hx x (List.mem_append_right _ h)) (by lia) (by lia) fun fr1 h1 f1 T1 I1 e4 => ?_
 refine step_tests T1 I1 hx lP lW fun h2 g2 => ?_
 refine pick C (T1.gr g2) I1 lP lW fun cv3 fr3 h3 kt T3 v11 et kta ktF => ?_
 rw [← etn] at et
 refine ends_loop C T3 v11 et kta htn (by rw [e4]; exact el) fun fr4 h4 es T4 et4 el4 ev => ?_
 refine told C T4 v11 et4 kta ktF (P := P) (Wt := Wt ++ l) I1.f0 I1.f3 dn hr2 lP lW lt fun fr5 h5 a5 C5 T5 e5 => xNil ?_
 have sr : srt (bI bs) ((Wt ++ l).filter fun x => decide (x ∉ tn)) = (srt (bI bs) (Wt ++ l)).drop hands.toNat := by rw [etn]; exact srt_rst nd
 have jn : P ++ tn ++ srt (bI bs) ((Wt ++ l).filter fun x => decide (x ∉ tn)) = P ++ srt (bI bs) (Wt ++ l) := by
  rw [sr, etn, List.append_assoc, List.take_append_drop]
 refine q _ _ _ _ _ C5 T5 ⟨rfl, ?_, ?_, rfl, I1.f5⟩ el4 fun i hi => (ev i hi).trans (by rw [e4])
 ·rw [jn]; exact I1.f1
 ·rw [jn]; exact I1.f2
end
end Mine
namespace Mine
section
variable {n : Nat} {Q : AFlow → Fm → Hp → Prop} {N : Nat} {to : Nat → Nat} {dues bs : List Int} {b : Nat → Int} {hands : Int} {cv : Nat → Option AV} {fr : Fm} {h : Hp} {kP kD kT kB kW : Nat} {ws : List (Nat × Int × Int)}
theorem ways_adds (nl : N ≤ 32) (up : ∀ i, i < N → i < to i ∧ to i ≤ N) (wval : ws.map Prod.snd = wv N to (List.range N)) : Adds (adds6 ws (List.range N)) (plN N) Int.toNat ∧ ws.length ≤ 32 := by
 have lw : ws.length ≤ 32 := by
  have := congrArg List.length wval
  rw [List.length_map] at this
  have := wv_len (N := N) (to := to) (ds := List.range N)
  rw [List.length_range] at this; lia
 refine ⟨adds6_ok (by lia) (by lia) fun x hx => ?_, lw⟩
 rw [wval] at hx
 obtain ⟨i, a, c, e⟩ := mem_wv.mp hx
 rw [e]
 exact ⟨⟨i, a, rfl⟩, (up i a).1⟩
theorem segF (D : SE N to dues bs b hands cv fr h kP kD kT kB kW ws) (q : ∀ cv fr h k F w a f, LC kP kD kT kW k a ws F → SF N to dues hands cv fr h kP kD kT kW k ws a f F w (built (adds6 ws (List.range N))).prep 0 → LI6 bs [(N : Int)] [] ((N : Int) + 1) f → f 4 = List.replicate N 0 → exStep (go (n + 40)) (g06_12b.drop 25) fr h Q) : exStep (go (n + 40)) (g06_12b.drop 18) fr h Q := by
 have B := D.B
 have nl := B.nl
 have A := ways_adds nl.2 B.up D.wval
 refine xAsg <| eCall <| eFn <| vCons <| B.cx.ev rfl (by decide) B.v5 <| vCons <| eLoc D.f83 <| vNil <| vNil <| sorter6_spec (n := n + 12) B.oP D.W A.1 (by have := A.2; lia) fun h1 k O lk => Own.casesOn O fun F w R g fn kF => ?_
 have lB := lt_of_get D.oB
 have l13 : 13 < h.length := Nat.lt_trans D.lB lB
 have oB := g.get D.oB
 have lL : h.length ≤ h1.length := g.len
 have B1 := (B.gr g).fs (x := 44) (v := .ref k)
 have W1 := D.W.gr g
 have old : ∀ {j : Nat} {o : AObj}, h[j]? = some o → j < h.length := fun e => lt_of_get e
 have xP := old B.oP
 have xD := old B.oD
 have xT := old B.oT
 have xW := old D.W.lst
 have e1 : ∀ o : AObj, (h1 ++ [o]).length = h1.length + 1 := fun o => List.length_append
 have e2 : ∀ o o' : AObj, (h1 ++ [o] ++ [o']).length = h1.length + 2 := fun o o' => by rw [List.length_append, e1]; rfl
 have e3 : ∀ o o' o2 : AObj, (h1 ++ [o] ++ [o'] ++ [o2]).length = h1.length + 3 := fun o o' o2 => by rw [List.length_append, e2]; rfl
 have e4 : ∀ o o' o2 o3 : AObj, (h1 ++ [o] ++ [o'] ++ [o2] ++ [o3]).length = h1.length + 4 := fun o o' o2 o3 => by rw [List.length_append, e3]; rfl
 have e5 : ∀ o o' o2 o3 o4 : AObj, (h1 ++ [o] ++ [o'] ++ [o2] ++ [o3] ++ [o4]).length = h1.length + 5 := fun o o' o2 o3 o4 => by rw [List.length_append, e4]; rfl
 refine xAsg <| eList <| vCons <| B1.cx.ev rfl (by decide) B1.v4 <| vNil ?_
 have g1 : ∀ t, Gr h1 (h1 ++ t) := fun t => Kp.refl.more
 refine xAsg <| eList <| vCons <| (B1.gr (g1 _)).cx.fs.ev rfl (by decide) B1.v4 <| vCons <| eBin <| (B1.gr (g1 _)).cx.fs.ev rfl (by decide) B1.v4 <| eInt <| oAdd <| vNil ?_
 rw [e1]
 have C2 := fun o o' : AObj => (B1.gr ((g1 [o]).more (t := [o']))).cx
 refine xAsg <| eList <| vCons <| eIdx <| (C2 _ _).fs.fs.ev rfl (by decide) D.v13 <| (C2 _ _).fs.fs.ev rfl (by decide) B1.v4 <| gIx (get_app (get_app oB)) (by rw [D.bl]; lia) <| vNil ?_
 rw [e2]
 refine xAsg <| eList <| vNil ?_
 rw [e3]
 have g4 : Gr h1 (h1 ++ [AObj.list [.int (N : Int)]] ++ [AObj.list [.int (N : Int), .int ((N : Int) + 1)]] ++ [AObj.list [.int (gn bs N)]] ++ [AObj.list []] ++ [.list [.int 0]]) := (g1 _).more.more.more.more
 refine xAsgC <| eBin <| eList <| vCons <| eInt <| vNil <| (B1.gr g4).cx.fs.fs.fs.fs.ev rfl (by decide) B1.v4 <| .rep tup_at (Int.natCast_nonneg N) (by lia) ?_
 rw [e5]
 have a0 : (h1 ++ [AObj.list [.int (N : Int)]])[h1.length]? = some (.list ([(N : Int)].map .int)) := tup_at
 have a1 : (h1 ++ [AObj.list [.int (N : Int)]] ++ [AObj.list [.int (N : Int), .int ((N : Int) + 1)]])[h1.length + 1]? = some (.list ([(N : Int), (N : Int) + 1].map .int)) := e1 _ ▸ tup_at
 have a2 : (h1 ++ [AObj.list [.int (N : Int)]] ++ [AObj.list [.int (N : Int), .int ((N : Int) + 1)]] ++ [AObj.list [.int (gn bs N)]])[h1.length + 2]? = some (.list ([gn bs N].map .int)) := e2 _ _ ▸ tup_at
 have a3 : (h1 ++ [AObj.list [.int (N : Int)]] ++ [AObj.list [.int (N : Int), .int ((N : Int) + 1)]] ++ [AObj.list [.int (gn bs N)]] ++ [AObj.list []])[h1.length + 3]? = some (.list (([] : List Int).map .int)) := e3 _ _ _ ▸ tup_at
 have a4 : (h1 ++ [AObj.list [.int (N : Int)]] ++ [AObj.list [.int (N : Int), .int ((N : Int) + 1)]] ++ [AObj.list [.int (gn bs N)]] ++ [AObj.list []] ++ [.list [.int 0]] ++ [.list (List.replicate N (.int 0))])[h1.length + 5]? = some (.list ((List.replicate N 0).map .int)) := by rw [List.map_replicate]; exact e5 _ _ _ _ _ ▸ tup_at
 have a0 := get_app (t := [.list (List.replicate N (.int 0))]) (get_app (t := [.list [.int 0]]) (get_app (t := [AObj.list []]) (get_app (t := [AObj.list [.int (gn bs N)]]) (get_app (t := [AObj.list [.int (N : Int), .int ((N : Int) + 1)]]) a0))))
 have a1 := get_app (t := [.list (List.replicate N (.int 0))]) (get_app (t := [.list [.int 0]]) (get_app (t := [AObj.list []]) (get_app (t := [AObj.list [.int (gn bs N)]]) a1)))
 have a2 := get_app (t := [.list (List.replicate N (.int 0))]) (get_app (t := [.list [.int 0]]) (get_app (t := [AObj.list []]) a2))
 have a3 := get_app (t := [.list (List.replicate N (.int 0))]) (get_app (t := [.list [.int 0]]) a3)
 have g5 : Gr h1 (h1 ++ [AObj.list [.int (N : Int)]] ++ [AObj.list [.int (N : Int), .int ((N : Int) + 1)]] ++ [AObj.list [.int (gn bs N)]] ++ [AObj.list []] ++ [.list [.int 0]] ++ [.list (List.replicate N (.int 0))]) := g4.more
 rw [Int.toNat_natCast]
 generalize h1 ++ [AObj.list [.int (N : Int)]] ++ [AObj.list [.int (N : Int), .int ((N : Int) + 1)]] ++ [AObj.list [.int (gn bs N)]] ++ [AObj.list []] ++ [.list [.int 0]] ++ [.list (List.replicate N (.int 0))] = h2 at *
 have B2 := B1.gr g5
 refine B2.cx.fs.fs.fs.fs.stc Kp.refl (j := 10) rfl (by decide) ?_
 have B3 := (B2.put (v := .ref (h1.length + 5)) (j := 10) (by decide)).fs (x := 93) (v := .ref h1.length)
 have B3 := ((B3.fs (x := 50) (v := .ref (h1.length + 1))).fs (x := 94) (v := .ref (h1.length + 2))).fs (x := 95) (v := .ref (h1.length + 3))
 have n10 : ∀ {j}, 13 < j → 10 ≠ j := fun l => Nat.ne_of_lt (Nat.lt_trans (by decide : 10 < 13) l)
 have c10 := B2.cx.cells 10 (by decide) (by decide)
 have W2 := W1.gr g5
 have R2 := R.move g5.len fun j o _ e => g5.get e
 have k13 : 13 < h1.length := Nat.lt_of_lt_of_le l13 lL
 refine xAsg <| eInt ?_
 refine q _ _ _ k F w (fun i => if i = 5 then kB else h1.length + (i + i / 4)) (fun i => match i with | 0 => [(N : Int)] | 1 => [(N : Int), (N : Int) + 1] | 2 => [gn bs N] | 3 => [] | 4 => List.replicate N 0 | _ => bs) ⟨fun i hi => ?_, fun j z => ?_, kF⟩ ⟨B3.fs, upn_eq, D.v13, rfl, rfl, rfl, rfl, rfl, rfl, D.f83, ⟨fun i j hi hj e => ?_, fun i hi => ?_, fun i hi => ?_⟩, ⟨get_set W2.lst (ne_of_get c10 W2.lst nofun), fun x hx => get_set (W2.tup x hx) (ne_of_get c10 (W2.tup x hx) nofun)⟩, R2.move (Nat.le_of_eq List.length_set.symm) fun j o z e => get_set e (n10 (z.elim (fun z => Nat.lt_of_lt_of_le l13 (fn j z)) fun z => z ▸ Nat.lt_of_lt_of_le l13 lk))⟩ ⟨rfl, rfl, rfl, rfl, rfl⟩ rfl
 ·by_cases c : i = 5
  ·rw [if_pos c]; exact D.nB
  ·rw [if_neg c]; lia
 ·have fl := fn j z
  refine ⟨by lia, by lia, by lia, by lia, by lia, fun x hx => ?_, fun i hi => ?_⟩
  ·have := old (D.W.tup x hx); lia
  ·have := R.old j z
   by_cases c : i = 5
   ·rw [if_pos c]; lia
   ·rw [if_neg c]; lia
 ·by_cases c : i = 5
  ·by_cases d : j = 5
   ·rw [c, d]
   ·rw [if_pos c, if_neg d] at e; lia
  ·by_cases d : j = 5
   ·rw [if_neg c, if_pos d] at e; lia
   ·rw [if_neg c, if_neg d] at e; lia
 ·match i, hi with
  | 0, _ => exact get_set a0 (n10 k13)
  | 1, _ => exact get_set a1 (n10 (Nat.lt_succ_of_lt k13))
  | 2, _ => exact get_set a2 (n10 (Nat.lt_of_lt_of_le k13 (Nat.le_add_right _ _)))
  | 3, _ => exact get_set a3 (n10 (Nat.lt_of_lt_of_le k13 (Nat.le_add_right _ _)))
  | 4, _ => exact get_set a4 (n10 (Nat.lt_of_lt_of_le k13 (Nat.le_add_right _ _)))
  | 5, _ => exact get_set (g5.get oB) (n10 D.lB)
 ·by_cases c : i = 5
  ·rw [if_pos c]; exact D.lB
  ·rw [if_neg c]; lia
end
end Mine
namespace Mine
theorem plN_len {N : Nat} : (plN N).length = N := by unfold plN; rw [List.length_map, List.length_range]
theorem cnt_le {N : Nat} {l : List Int} : cnt N (fun i => decide ((i : Int) ∈ l)) ≤ l.length := by
 unfold cnt
 rw [List.countP_eq_length_filter, ← List.length_map (f := fun i : Nat => (i : Int))]
 refine nodup_len ?_ fun x hx => ?_
 ·rw [List.nodup_iff_pairwise_ne, List.pairwise_map]
  exact (List.nodup_range.filter _).imp fun {a b} (z : a ≠ b) e => z (Int.ofNat.inj e)
 ·obtain ⟨i, hi, e⟩ := List.mem_map.mp hx
  rw [← e]; exact of_decide_eq_true (List.mem_filter.mp hi).2
theorem cnt_ge {N : Nat} {l : List Int} {p : Nat → Bool} (nd : l.Nodup) (h : ∀ x ∈ l, ∃ i, i < N ∧ x = (i : Int) ∧ p i = true) : l.length ≤ cnt N p := by
 unfold cnt
 rw [List.countP_eq_length_filter, ← List.length_map (f := fun i : Nat => (i : Int))]
 refine nodup_len nd fun x hx => ?_
 obtain ⟨i, hi, e, z⟩ := h x hx
 exact List.mem_map.mpr ⟨i, List.mem_filter.mpr ⟨List.mem_range.mpr hi, z⟩, e.symm⟩
structure PL (N m : Nat) (to : Nat → Nat) (b : Nat → Int) (ws : List (Nat × Int × Int)) (S : Sr) (H D l Wt e : List Int) (s : Nat) : Prop where
 K : KI (adds6 ws (List.range N)) (built (adds6 ws (List.range N))) S H D l
 wn : Wt.Nodup
 wm : ∀ x, x ∈ Wt ↔ x ∈ H ∧ x ∉ D
 R : Run N m to b (fun i => (gn e i).toNat) s
 e0 : ∀ i, i < N → (0 < (gn e i).toNat ↔ (i : Int) ∈ D)
 el : e.length = N
 ds : s ≤ D.length
section
variable {N m : Nat} {to : Nat → Nat} {b : Nat → Int} {β : Int → Int} {ws : List (Nat × Int × Int)} {S : Sr} {H D l Wt e tn e' : List Int} {s : Nat}
theorem pls_ws (wval : ws.map Prod.snd = wv N to (List.range N)) {i : Nat} (hi : i < N) {p : Int} : p ∈ pls (adds6 ws (List.range N)) i ↔ ∃ j, j < N ∧ to j = i ∧ p = (j : Int) := by
 rw [pls_adds6 hi, wval, mem_wv]
 constructor
 ·rintro ⟨j, a, c, q⟩
  exact ⟨j, a, (Int.ofNat.inj (congrArg Prod.snd q)).symm, congrArg Prod.fst q⟩
 ·rintro ⟨j, a, c, q⟩
  exact ⟨j, a, c ▸ hi, by rw [c, q]⟩
variable (A : Adds (adds6 ws (List.range N)) (plN N) Int.toNat) (P : PL N m to b ws S H D l Wt e s)
include A P
theorem PL.sub {x : Int} (hx : x ∈ H ∨ x ∈ l) : ∃ i, i < N ∧ x = (i : Int) := (ks_adds6 A).mp ((P.K.rdy x).mp hx).1
theorem PL.subD {x : Int} (hx : x ∈ D) : ∃ i, i < N ∧ x = (i : Int) := PL.sub A P (.inl (P.K.dh x hx))
theorem PL.subW {x : Int} (hx : x ∈ Wt ++ l) : ∃ i, i < N ∧ x = (i : Int) := PL.sub A P ((List.mem_append.mp hx).imp (fun z => ((P.wm x).mp z).1) id)
theorem PL.len {L : List Int} (nd : L.Nodup) (h : ∀ x ∈ L, ∃ i, i < N ∧ x = (i : Int)) : L.length ≤ N := Nat.le_trans (nodup_len nd fun x hx => mem_plN.mpr (h x hx)) (Nat.le_of_eq plN_len)
theorem PL.nW : (Wt ++ l).Nodup := List.nodup_append.mpr ⟨P.wn, P.K.ln, fun x hx c hc z => P.K.lh c hc (z ▸ ((P.wm x).mp hx).1)⟩
variable (wval : ws.map Prod.snd = wv N to (List.range N))
include wval
theorem PL.wait {i : Nat} (hi : i < N) : (i : Int) ∈ Wt ++ l ↔ (i : Int) ∉ D ∧ ∀ j, j < N → to j = i → (j : Int) ∈ D := by
 rw [List.mem_append, P.wm]
 have r := P.K.rdy (i : Int)
 constructor
 ·intro h
  have nD : (i : Int) ∉ D := h.elim (fun z => z.2) fun z d => P.K.lh _ z (P.K.dh _ d)
  exact ⟨nD, fun j hj e => (r.mp (h.imp (fun z => z.1) id)).2 _ ((pls_ws wval hi).mpr ⟨j, hj, e, rfl⟩)⟩
 ·rintro ⟨nD, h⟩
  refine (r.mpr ⟨(ks_adds6 A).mpr ⟨i, hi, rfl⟩, fun p hp => ?_⟩).imp (fun z => ⟨z, nD⟩) id
  obtain ⟨j, hj, e, ep⟩ := (pls_ws wval hi).mp hp
  rw [ep]; exact h j hj e
theorem PL.more (act : S.act l = true) : Wt ++ l ≠ [] := by
 intro z
 obtain ⟨z1, z2⟩ := List.append_eq_nil_iff.mp z
 have := nodup_len P.K.hn (ks := D) fun x hx => Classical.byContradiction fun nD => by
  have := (P.wm x).mpr ⟨hx, nD⟩
  rw [z1] at this; cases this
 unfold Sr.act at act
 rw [z2, P.K.fi, P.K.pa, decide_eq_false (by lia)] at act
 cases act
theorem PL.all (up : ∀ i, i < N → i < to i ∧ to i ≤ N) (h : S.act l = false ∨ N ≤ s) : ∀ {i : Nat}, i < N → (i : Int) ∈ D := by
 rcases h with h | h
 ·unfold Sr.act at h
  obtain ⟨h1, h2⟩ := Bool.or_eq_false_iff.mp h
  have h1 := of_decide_eq_false h1
  rw [P.K.fi, P.K.pa] at h1
  have l0 : l = [] := by cases l with | nil => rfl | cons a t => cases h2
  have hd : ∀ x ∈ H, x ∈ D := fun x hx => Classical.byContradiction fun nD => by
   have := nodup_len (l := x :: D) (ks := H) (List.nodup_cons.mpr ⟨nD, P.K.dn⟩) fun y hy => (List.mem_cons.mp hy).elim (fun e => e ▸ hx) (P.K.dh y)
   rw [List.length_cons] at this; lia
  have key : ∀ m i, i ≤ m → i < N → (i : Int) ∈ D := by
   intro m
   induction m with
   | zero =>
    intro i l hi
    refine Classical.byContradiction fun nD => ?_
    have := (PL.wait A P wval hi).mpr ⟨nD, fun j hj e => by have := (up j hj).1; lia⟩
    rw [l0, List.append_nil] at this
    exact nD (hd _ ((P.wm _).mp this).1)
   | succ m ih =>
    intro i l hi
    refine Classical.byContradiction fun nD => ?_
    have := (PL.wait A P wval hi).mpr ⟨nD, fun j hj e => ih j (by have := (up j hj).1; lia) hj⟩
    rw [l0, List.append_nil] at this
    exact nD (hd _ ((P.wm _).mp this).1)
  exact fun {i} hi => key i i (Nat.le_refl i) hi
 ·intro i hi
  refine Classical.byContradiction fun nD => ?_
  have := PL.len A P (L := (i : Int) :: D) (List.nodup_cons.mpr ⟨nD, P.K.dn⟩) fun x hx => (List.mem_cons.mp hx).elim (fun e => ⟨i, hi, e⟩) (PL.subD A P)
  have := P.ds
  rw [List.length_cons] at *; lia
theorem PL.step (nd : (built (adds6 ws (List.range N))).ks.Nodup) (hm : 0 < m) (act : S.act l = true) (bv : ∀ i, i < N → β (i : Int) = b i) (etn : tn = (srt β (Wt ++ l)).take m) (el : e'.length = N) (ev : ∀ i, i < N → gn e' i = if (i : Int) ∈ tn then ((s + 1 : Nat) : Int) else gn e i) :
  ∃ l', PL N m to b ws (tn.foldl Sr.done1 (S.ready l)) (H ++ l) (D ++ tn) l' ((Wt ++ l).filter fun x => decide (x ∉ tn)) e' (s + 1) := by
 have bt := built_bt (adds6 ws (List.range N))
 have a0 : adds6 ws (List.range N) = adds6 ws (List.range N) ++ [] := (List.append_nil _).symm
 obtain ⟨t1, t2, t3⟩ := turn_of (bb := β) (m := m) (PL.nW A P)
 rw [← etn] at t1 t2 t3
 obtain ⟨n1, k1, dn, r2, ⟨l', K'⟩, wn', wm'⟩ := step_ki bt (A.sul a0) (A.ksl a0 nd) P.K P.wn P.wm t1 t2
 have eE : ∀ i, i < N → (gn e' i).toNat = if decide ((i : Int) ∈ tn) = true then s + 1 else (gn e i).toNat := fun i hi => by
  rw [ev i hi]
  by_cases c : (i : Int) ∈ tn
  ·rw [if_pos c, if_pos (decide_eq_true c)]; rfl
  ·rw [if_neg c, if_neg (by rw [decide_eq_false c]; decide)]
 refine ⟨l', K', wn', wm', Run.step (W := fun i => decide ((i : Int) ∈ Wt ++ l)) (T := fun i => decide ((i : Int) ∈ tn)) P.R (fun i hi => ?_) (fun i hi z => decide_eq_true (t1 _ (of_decide_eq_true z))) ?_ (fun i hi wi ti => ?_) eE, fun i hi => ?_, el, ?_⟩
 ·rw [decide_eq_true_iff, PL.wait A P wval hi]
  refine and_congr ⟨fun z => ?_, fun z d => ?_⟩ ⟨fun z j hj e => (P.e0 j hj).mpr (z j hj e), fun z j hj e => (P.e0 j hj).mp (z j hj e)⟩
  ·exact Nat.eq_zero_of_not_pos fun y => z ((P.e0 i hi).mp y)
  ·exact Nat.lt_irrefl _ (z ▸ (P.e0 i hi).mpr d)
 ·refine Nat.le_trans cnt_le ?_
  rw [t3]; exact Nat.min_le_left _ _
 ·have wi := of_decide_eq_true wi
  have ti := of_decide_eq_false ti
  have pw := srt_pw (b := β) (w := Wt ++ l)
  rw [← List.take_append_drop m (srt β (Wt ++ l)), ← etn] at pw
  have xs : (i : Int) ∈ tn ++ (srt β (Wt ++ l)).drop m := by
   rw [etn, List.take_append_drop]; exact (srt_perm _ _).mem_iff.mpr wi
  have xd := (List.mem_append.mp xs).resolve_left ti
  have ls : (srt β (Wt ++ l)).length = (Wt ++ l).length := (srt_perm _ _).length_eq
  have : m ≤ (Wt ++ l).length := by
   have := List.length_pos_of_mem xd
   rw [List.length_drop, ls] at this; lia
  rw [Nat.min_eq_left this] at t3
  refine Nat.le_trans (Nat.le_of_eq t3.symm) (cnt_ge t2 fun x hx => ?_)
  obtain ⟨j, hj, ej⟩ := PL.subW A P (t1 x hx)
  have := (List.pairwise_append.mp pw).2.2 x hx _ xd
  rw [ej, bv j hj, bv i hi] at this
  refine ⟨j, hj, ej, ?_⟩
  rw [Bool.and_eq_true]
  exact ⟨decide_eq_true (ej ▸ hx), decide_eq_true this⟩
 ·rw [eE i hi, List.mem_append]
  by_cases c : (i : Int) ∈ tn
  ·rw [if_pos (decide_eq_true c)]; exact ⟨fun _ => .inr c, fun _ => Nat.succ_pos s⟩
  ·rw [if_neg (by rw [decide_eq_false c]; decide), P.e0 i hi]; exact ⟨.inl, fun z => z.resolve_right c⟩
 ·have := List.length_pos_iff.mpr (PL.more A P wval act)
  have := P.ds
  rw [List.length_append, t3]; lia
end
end Mine
namespace Mine
inductive WI (N : Nat) (to : Nat → Nat) (dues bs : List Int) (b : Nat → Int) (hands : Int) (kP kD kT kW k : Nat) (ws : List (Nat × Int × Int)) (F : Nat → Prop) (w : Wit) (m : Nat) (fr : Fm) (h : Hp) : Prop
 | mk (cv : Nat → Option AV) (a : Nat → Nat) (f : Nat → List Int) (S : Sr) (s : Nat) (H D l Wt : List Int) (C : LC kP kD kT kW k a ws F) (T : SF N to dues hands cv fr h kP kD kT kW k ws a f F w S s) (I : LI6 bs ((N : Int) :: D) Wt ((N : Int) + 1) f) (P : PL N hands.toNat to b ws S H D l Wt (f 4) s) (em : m + s = N) : WI N to dues bs b hands kP kD kT kW k ws F w m fr h
structure SG (N : Nat) (to : Nat → Nat) (dues bs : List Int) (b : Nat → Int) (hands : Int) (cv : Nat → Option AV) (fr : Fm) (h : Hp) (kP kD kT kW k : Nat) (ws : List (Nat × Int × Int)) (a : Nat → Nat) (f : Nat → List Int) (F : Nat → Prop) (w : Wit) (S : Sr) (s : Nat) : Prop where
 C : LC kP kD kT kW k a ws F
 T : SF N to dues hands cv fr h kP kD kT kW k ws a f F w S s
 f5 : f 5 = bs
 el : (f 4).length = N
 e0 : ∀ i, i < N → 0 < gn (f 4) i
 S : Sch N hands.toNat to (gn dues) b fun i => (gn (f 4) i).toNat
section
variable {n : Nat} {Q : AFlow → Fm → Hp → Prop} {N : Nat} {to : Nat → Nat} {dues bs : List Int} {b : Nat → Int} {hands : Int} {kP kD kT kW k : Nat} {ws : List (Nat × Int × Int)} {F : Nat → Prop} {w : Wit}
theorem segG {cv : Nat → Option AV} {fr : Fm} {h : Hp} {a : Nat → Nat} {f : Nat → List Int} (C : LC kP kD kT kW k a ws F) (T : SF N to dues hands cv fr h kP kD kT kW k ws a f F w (built (adds6 ws (List.range N))).prep 0) (I : LI6 bs [(N : Int)] [] ((N : Int) + 1) f) (e4 : f 4 = List.replicate N 0) (wval : ws.map Prod.snd = wv N to (List.range N)) (Bd : ToB N to (gn dues) b) (bl : bs.length = N + 2) (bv : ∀ i, i < N → gn bs i = b i)
  (q : ∀ cv fr h a f S s, SG N to dues bs b hands cv fr h kP kD kT kW k ws a f F w S s → exStep (go (n + 40)) (g06_12b.drop 26) fr h Q) : exStep (go (n + 40)) (g06_12b.drop 25) fr h Q := by
 have up := T.B.up
 have nl := T.B.nl
 have hd := T.B.hd
 have A := (ways_adds nl.2 up wval).1
 have bt := built_bt (adds6 ws (List.range N))
 have a0 : adds6 ws (List.range N) = adds6 ws (List.range N) ++ [] := (List.append_nil _).symm
 have ge0 : ∀ i, i < N → gn (List.replicate N 0) i = 0 := fun i hi => by unfold gn; rw [List.getD_eq_getElem?_getD, List.getElem?_replicate, if_pos hi]; rfl
 have nd : (built (adds6 ws (List.range N))).ks.Nodup := T.R.nd
 have fin : ∀ {cv fr h a f S s H D l Wt}, LC kP kD kT kW k a ws F → SF N to dues hands cv fr h kP kD kT kW k ws a f F w S s → LI6 bs ((N : Int) :: D) Wt ((N : Int) + 1) f → PL N hands.toNat to b ws S H D l Wt (f 4) s → (S.act l = false ∨ N ≤ s) → exStep (go (n + 40)) (g06_12b.drop 26) fr h Q := fun C T I P z => by
  have all := fun i hi => (P.e0 i hi).mpr (PL.all A P wval up z hi)
  exact q _ _ _ _ _ _ _ ⟨C, T, I.f5, P.el, fun i hi => by have := all i hi; lia, Run.sch P.R (by lia) up Bd.bd all⟩
 refine xWhile (WI N to dues bs b hands kP kD kT kW k ws F w) N (by show N < 10000000; lia) ⟨cv, a, f, _, 0, [], [], _, [], C, T, I, ⟨ki_prep bt nd, .nil, fun x => ⟨nofun, nofun⟩, Run.init fun i hi => by rw [e4, ge0 i hi]; rfl, fun i hi => ⟨fun z => absurd z (by rw [e4, ge0 i hi]; exact Nat.lt_irrefl 0), nofun⟩, by rw [e4, List.length_replicate], Nat.le_refl 0⟩, rfl⟩ fun m fr h i => WI.casesOn i fun cv a f S s H D l Wt C T I P em => ?_
 refine eAnd <| eOwn (j := 6) rfl <| eLoc T.f44 ⟨k, _, rfl, T.R.inst, vNil <| f6_spec (n := n + 28) T.R P.K.rd ⟨_, rfl, ?_⟩⟩
 cases act : S.act l with
 | false => exact ⟨false, rfl, xEnter (xNil (fin C T I P (.inl act)))⟩
 | true =>
  refine eCmp <| eLoc T.f97 <| T.B.cx.ev rfl (by decide) T.B.v4 <| cLt ⟨_, rfl, ?_⟩
  by_cases c : s < N
  ·rw [decide_eq_true (Int.ofNat_lt.mpr c)]
   refine xEnter ?_
   have lenW : (Wt ++ l).length ≤ N := PL.len A P (PL.nW A P) fun x hx => PL.subW A P hx
   have lenD : D.length ≤ N := PL.len A P P.K.dn fun x hx => PL.subD A P hx
   have lenl : l.length ≤ N := PL.len A P P.K.ln fun x hx => PL.sub A P (.inr hx)
   have t := turn_of (bb := bI bs) (m := hands.toNat) (PL.nW A P)
   obtain ⟨n1, k1, dn, r2, _⟩ := step_ki bt (A.sul a0) (A.ksl a0 nd) P.K P.wn P.wm t.1 t.2.1
   refine step6 (n := n) C T I P.K.rd (by lia) k1 (fun x hx => ?_) (by rw [List.length_cons]; lia) (by lia) n1 rfl dn r2 (fun x hx => PL.subW A P (t.1 x hx)) P.el fun cv' fr' h' a' f' C' T' I' el' ev' => ?_
   ·rw [bl]
    refine (List.mem_append.mp hx).elim (fun z => (List.mem_cons.mp z).elim (fun e => ⟨N, by lia, e⟩) fun z => (PL.subD A P z).elim fun i z => ⟨i, by lia, z.2⟩) fun z => (PL.subW A P z).elim fun i z => ⟨i, by lia, z.2⟩
   ·refine (PL.step A P wval nd (by lia) act (β := bI bs) bv rfl el' ev').elim fun l' P' => ⟨m - 1, by lia, ?_⟩
    exact ⟨cv', a', f', _, s + 1, _, _, l', _, C', T', I', P', by lia⟩
  ·rw [decide_eq_false fun z => c (Int.ofNat_lt.mp z)]
   exact xEnter (xNil (fin C T I P (.inr (Nat.le_of_not_lt c))))
end
end Mine
namespace Mine
theorem ceil_eq {c m : Nat} (hm : 0 < m) : -((-(c : Int)).fdiv (m : Int)) = (((c + m - 1) / m : Nat) : Int) := by
 have e := Nat.div_add_mod (c + m - 1) m
 have l := Nat.mod_lt (c + m - 1) hm
 generalize (c + m - 1) / m = q at *
 generalize (c + m - 1) % m = r at *
 have e : (m : Int) * q + r = c + m - 1 := by rw [← Int.natCast_mul]; lia
 have z := ((Int.ediv_emod_unique (a := -(c : Int)) (b := (m : Int)) (q := -(q : Int)) (r := (m : Int) - 1 - r) (Int.ofNat_lt.mpr hm)).mpr ⟨by rw [Int.mul_neg]; lia, by lia, by lia⟩).1
 rw [Int.fdiv_eq_ediv_of_nonneg _ (Int.natCast_nonneg m), z, Int.neg_neg]
noncomputable def cI (N : Nat) (bs : List Int) (i : Nat) : Int := ((cnt N fun j => decide (gn bs j ≤ gn bs i) : Nat) : Int)
inductive CJ (N : Nat) (bs : List Int) (h : Hp) (ds : List Nat) (h' : Hp) (acc : List AV) : Prop
 | mk (v : Option AV) (g : Gr h h') (ec : h'[h.length]? = some (.cell v)) (ea : acc = (ds.map (cI N bs)).map .int) : CJ N bs h ds h' acc
section
variable {n : Nat} {N : Nat} {to : Nat → Nat} {dues bs : List Int} {hands : Int} {cv : Nat → Option AV} {fr : Fm} {h : Hp} {kP kD kT : Nat} (B : SQ N to dues hands cv fr h kP kD kT)
include B
theorem late_spec {e : List Int} {ke : Nat} {Q : AV → Hp → Prop} (v10 : cv 10 = some (.ref ke)) (oe : h[ke]? = some (.list (e.map .int))) (el : e.length = N)
  (q : ∀ m h', Gr h h' → (∃ i, i < N ∧ m = gn e i - gn dues i) → (∀ i, i < N → gn e i - gn dues i ≤ m) → Q (.int m) h') :
  (go (n + 40)).ev (.prim .max [(.comp (.bin .sub (.idx (.cel 96) (.loc 24)) (.idx (.cel 79) (.loc 24))) (.mk (.one (.loc 24)) (.seq (.cel 62)) []) [] [] [79, 96])]) fr h Q := by
 have nl := B.nl
 refine ePrim <| vCons <| eComp <| src_seq <| B.cx.ev rfl (by decide) B.v5 <| .mk B.oP rfl ?_
 refine ckP (n := n + 38) (fun i : Nat => .one (.int (i : Int))) (List.range N) (fun _ => true) (fun i => .int (gn e i - gn dues i)) hitsP B.oP (by rw [List.length_range]; lia) (fun i hi fr' ef => .mk ⟨rfl, rfl, ⟨rfl, rfl⟩, fun _ => ?_⟩) ?_
 ·have ef : (fr'.set 24 (.int (i : Int))).cel = _ := ef
  have hi := List.mem_range.mp hi
  exact eBin <| eIdx <| B.cx.evf ef rfl rfl (by decide) v10 <| eLoc rfl <| gIx oe (el.symm ▸ hi) <| eIdx <| B.cx.evf ef rfl rfl (by decide) B.v8 <| eLoc rfl <| gIx B.oD (B.dl.symm ▸ hi) <| oSub ⟨rfl, rfl⟩
 ·rw [trueF, show (List.range N).map (fun i => AV.int (gn e i - gn dues i)) = ((List.range N).map fun i => gn e i - gn dues i).map .int by rw [List.map_map]; rfl]
  refine vNil <| .max _ (lints_l tup_at) (fun z => ?_) fun m hm1 hm2 => q m _ Kp.refl.more ?_ fun i hi => hm2 _ (List.mem_map.mpr ⟨i, List.mem_range.mpr hi, rfl⟩)
  ·have := congrArg List.length z
   rw [List.length_map, List.length_range] at this
   exact absurd this (by show ¬N = 0; lia)
  ·obtain ⟨i, hi, e⟩ := List.mem_map.mp hm1
   exact ⟨i, List.mem_range.mp hi, e.symm⟩
theorem counts_spec {kB : Nat} {Q : AV → Hp → Prop} (v13 : cv 13 = some (.ref kB)) (oB : h[kB]? = some (.list (bs.map .int))) (bl : N ≤ bs.length)
  (q : ∀ h', Gr h h' → Q (.ref h'.length) (h' ++ [.list (((List.range N).map (cI N bs)).map .int)])) :
  (go (n + 40)).ev (.comp (.prim .len [(.comp (.loc 59) (.mk (.one (.loc 59)) (.seq (.cel 62)) [(.cmp .le (.idx (.cel 90) (.loc 59)) (.idx (.cel 90) (.cel 24)))]) [] [] [90, 24])]) (.mk (.one (.cel 24)) (.seq (.cel 62)) []) [] [24] [90, 62]) fr h Q := by
 have nl := B.nl
 have c5 := B.cx.cells 5 (by decide) (by decide)
 rw [B.v5] at c5
 have c13 := B.cx.cells 13 (by decide) (by decide)
 rw [v13] at c13
 refine eComp <| src_seq <| B.cx.ev rfl (by decide) B.v5 <| .mk B.oP rfl ?_
 refine ckD (n := n + 39) (fun i : Nat => .one (.int (i : Int))) (List.range N) (CJ N bs h) hitsP ⟨none, Kp.refl.more, tup_at, rfl⟩ (fun ds h' acc j => CJ.casesOn j fun _ g _ _ => g.get B.oP) (fun ds i rs fr' h' acc e ef j => CJ.casesOn j fun v g ec ea => ?_) fun h' acc j => CJ.casesOn j fun v g ec ea => ea ▸ q h' g
 have hi := (range_split e).2
 rw [← (range_split e).1] at hi
 have f24 : fr'.cel 24 = some h.length := by rw [ef]; rfl
 have f62 : fr'.cel 62 = some 5 := by rw [ef]; show fr.cel 62 = _; rw [B.cx.cel]; rfl
 have f90 : fr'.cel 90 = some 13 := by rw [ef]; show fr.cel 90 = _; rw [B.cx.cel]; rfl
 refine .mk (.mk f24 ec ?_)
 have g2 : Gr h (h'.set h.length (.cell (some (.int (i : Int))))) := g.fresh (Nat.le_refl _)
 have ec2 : (h'.set h.length (.cell (some (.int (i : Int)))))[h.length]? = _ := get_self ec
 generalize h'.set h.length (.cell (some (.int (i : Int)))) = h2 at *
 show (go (n + 39)).ev _ _ _ _
 refine ePrim <| vCons <| eComp <| src_seq <| eCel f62 (g2.get c5) <| .mk (g2.get B.oP) rfl ?_
 refine ckP (n := n + 37) (fun j : Nat => .one (.int (j : Int))) (List.range N) (fun j => decide (gn bs j ≤ gn bs i)) (fun j => .int (j : Int)) hitsP (g2.get B.oP) (by rw [List.length_range]; lia) (fun j hj fr3 ef3 => .mk ⟨rfl, rfl, ?_, fun _ => eLoc rfl ⟨rfl, rfl⟩⟩) ?_
 ·have e24 : fr3.cel 24 = some h.length := by rw [ef3]; exact f24
  have e90 : fr3.cel 90 = some 13 := by rw [ef3]; exact f90
  refine eCmp <| eIdx <| eCel e90 (g2.get c13) <| eLoc rfl <| gIx (g2.get oB) (Nat.lt_of_lt_of_le (List.mem_range.mp hj) bl) <| eIdx <| eCel e90 (g2.get c13) <| eCel e24 ec2 <| gIx (g2.get oB) (Nat.lt_of_lt_of_le hi bl) <| cLe ⟨_, rfl, ?_⟩
  cases decide (gn bs j ≤ gn bs i) <;> exact ⟨rfl, rfl⟩
 ·refine vNil <| .len _ (seq_l tup_at) ⟨?_, ef, _, g2.more, get_app ec2, ?_⟩
  ·rw [ea, List.length_map, List.length_map]
   have := congrArg List.length e
   rw [List.length_range, List.length_append] at this; lia
  ·rw [ea, List.map_append, List.map_append, List.length_map]
   show _ ++ [AV.int _] = _ ++ [AV.int (cI N bs i)]
   unfold cI cnt
   rw [List.countP_eq_length_filter]
theorem other_spec {kB kC : Nat} {Q : AV → Hp → Prop} (v13 : cv 13 = some (.ref kB)) (oB : h[kB]? = some (.list (bs.map .int))) (bl : N ≤ bs.length) (v12 : cv 12 = some (.ref kC)) (oC : h[kC]? = some (.list (((List.range N).map (cI N bs)).map .int)))
  (q : ∀ m h', (∃ i, i < N ∧ m = -((-cI N bs i).fdiv hands) - gn bs i) → (∀ i, i < N → -((-cI N bs i).fdiv hands) - gn bs i ≤ m) → Q (.int m) h') :
  (go (n + 39)).ev (.prim .max [(.comp (.bin .sub (.neg (.bin .fdiv (.neg (.idx (.cel 100) (.loc 24))) (.cel 86))) (.idx (.cel 90) (.loc 24))) (.mk (.one (.loc 24)) (.seq (.cel 62)) []) [] [] [90, 100, 86])]) fr h Q := by
 have nl := B.nl
 have hd := B.hd
 refine ePrim <| vCons <| eComp <| src_seq <| B.cx.ev rfl (by decide) B.v5 <| .mk B.oP rfl ?_
 refine ckP (n := n + 37) (fun i : Nat => .one (.int (i : Int))) (List.range N) (fun _ => true) (fun i => .int (-((-cI N bs i).fdiv hands) - gn bs i)) hitsP B.oP (by rw [List.length_range]; lia) (fun i hi fr' ef => .mk ⟨rfl, rfl, ⟨rfl, rfl⟩, fun _ => ?_⟩) ?_
 ·have ef : (fr'.set 24 (.int (i : Int))).cel = _ := ef
  have hi := List.mem_range.mp hi
  refine eBin <| eNeg <| eBin <| eNeg <| eIdx <| B.cx.evf ef rfl rfl (by decide) v12 <| eLoc rfl <| gIx oC (by rw [List.length_map, List.length_range]; exact hi) ⟨_, rfl, B.cx.evf ef rfl rfl (by decide) B.v1 <| oFdiv (by lia) ⟨_, rfl, eIdx <| B.cx.evf ef rfl rfl (by decide) v13 <| eLoc rfl <| gIx oB (Nat.lt_of_lt_of_le hi bl) <| oSub ⟨?_, rfl⟩⟩⟩
  rw [gn_map hi]
 ·rw [trueF, show (List.range N).map (fun i => AV.int (-((-cI N bs i).fdiv hands) - gn bs i)) = ((List.range N).map fun i => -((-cI N bs i).fdiv hands) - gn bs i).map .int by rw [List.map_map]; rfl]
  refine vNil <| .max _ (lints_l tup_at) (fun z => ?_) fun m hm1 hm2 => q m _ ?_ fun i hi => hm2 _ (List.mem_map.mpr ⟨i, List.mem_range.mpr hi, rfl⟩)
  ·have := congrArg List.length z
   rw [List.length_map, List.length_range] at this
   exact absurd this (by show ¬N = 0; lia)
  ·obtain ⟨i, hi, e⟩ := List.mem_map.mp hm1
   exact ⟨i, List.mem_range.mp hi, e.symm⟩
end
end Mine
namespace Mine
section
variable {n : Nat} {Q : AFlow → Fm → Hp → Prop} {N : Nat} {to : Nat → Nat} {dues bs : List Int} {hands : Int} {cv : Nat → Option AV} {fr : Fm} {h : Hp} {kP kD kT kW k : Nat} {ws : List (Nat × Int × Int)} {a : Nat → Nat} {f : Nat → List Int} {F : Nat → Prop} {w : Wit} {S : Sr} {s : Nat}
theorem ends_ok (D : SG N to dues bs (gn bs) hands cv fr h kP kD kT kW k ws a f F w S s) (wval : ws.map Prod.snd = wv N to (List.range N)) (q : ∀ h', Gr h h' → exStep (go (n + 40)) (g06_12b.drop 27) fr h' Q) : exStep (go (n + 40)) (g06_12b.drop 26) fr h Q := by
 have T := D.T
 have up := T.B.up
 have nl := T.B.nl
 have lw := (ways_adds nl.2 up wval).2
 have o4 := T.L.at' 4 (by decide)
 refine xIteF <| eOr <| eCmp <| eInt <| T.B.cx.ev rfl (by decide) T.v10 <| .memL (lints_l o4) ⟨_, rfl, ?_⟩
 rw [decide_eq_false fun z => by
  obtain ⟨i, hi, e⟩ := List.getElem_of_mem z
  have := D.e0 i (D.el ▸ hi)
  have e2 : gn (f 4) i = 0 := by unfold gn; rw [List.getD_eq_getElem?_getD, List.getElem?_eq_getElem hi, e]; rfl
  lia]
 refine eCmp <| eComp <| src_seq <| eLoc T.f83 <| .mk T.W.lst rfl ?_
 refine ckP (n := n + 37) (fun x : Nat × Int × Int => .one (.ref x.1)) ws (fun _ => false) (fun x => .int x.2.1) (by rw [List.map_map]; rfl) T.W.lst (by lia) (fun x hx fr' ef => .tup (T.W.tup x hx) rfl ⟨rfl, rfl, ?_, fun z => nomatch z⟩) ?_
 ·have ef : ((fr'.set 24 (.int x.2.1)).set 84 (.int x.2.2)).cel = _ := ef
  have m := List.mem_map_of_mem (f := Prod.snd) hx
  rw [wval] at m
  obtain ⟨i, hi, c, e⟩ := mem_wv.mp m
  rw [e]
  have l := D.S.e2 i hi c
  have l : (gn (f 4) i).toNat < (gn (f 4) (to i)).toNat := l
  rw [e] at ef
  refine eCmp <| eIdx <| T.B.cx.evf ef rfl rfl (by decide) T.v10 <| eLoc rfl <| gIx o4 (D.el.symm ▸ hi) <| eIdx <| T.B.cx.evf ef rfl rfl (by decide) T.v10 <| eLoc rfl <| gIx o4 (D.el.symm ▸ c) <| cGe ⟨_, rfl, ?_⟩
  rw [decide_eq_false (by lia)]
  exact ⟨rfl, rfl⟩
 ·rw [List.filter_eq_nil_iff.mpr fun _ _ => Bool.false_ne_true]
  exact eList <| vNil <| .neL (xs := []) (ys := []) (lints_l (get_app tup_at)) (lints_l tup_at) ⟨rfl, q _ Kp.refl.more.more⟩
theorem segH (D : SG N to dues bs (gn bs) hands cv fr h kP kD kT kW k ws a f F w S s) (wval : ws.map Prod.snd = wv N to (List.range N)) (bl : bs.length = N + 2) (q : ∀ fr h, Q (.ret (.bool true)) fr h) : exStep (go (n + 40)) (g06_12b.drop 26) fr h Q := by
 refine ends_ok D wval fun h1 g1 => ?_
 have T := D.T.gr g1
 have hd := T.B.hd
 have l13 : 13 < h1.length := Nat.lt_trans (T.L.lo 0 (by decide)) (lt_of_get (T.L.at' 0 (by decide)))
 have lb : N ≤ bs.length := by lia
 have o4 := T.L.at' 4 (by decide)
 have o5 := T.L.at' 5 (by decide)
 rw [D.f5] at o5
 refine xAsg <| late_spec (n := n) T.B T.v10 o4 D.el fun m h2 g2 m1 m2 => ?_
 have B2 := (T.B.gr g2).fs (x := 99) (v := .int m)
 refine xAsgC <| counts_spec (n := n) B2 T.v13 (g2.get o5) lb fun h3 g3 => B2.cx.stc (g3.more) (j := 12) rfl (by decide) ?_
 have B3 := (B2.gr (g3.more (t := [.list (((List.range N).map (cI N bs)).map .int)]))).put (v := .ref h3.length) (j := 12) (by decide)
 have l3 : 13 < h3.length := Nat.lt_of_lt_of_le l13 (Nat.le_trans g2.len g3.len)
 have n12 : ∀ {j}, 13 < j → 12 ≠ j := fun l => Nat.ne_of_lt (Nat.lt_trans (by decide : 12 < 13) l)
 refine xRet <| eCmp <| eLoc rfl <| other_spec (n := n) (bs := bs) B3 T.v13 (get_set (get_app (g3.get (g2.get o5))) (n12 (T.L.lo 5 (by decide)))) lb upn_eq (get_set tup_at (n12 l3)) fun c h4 c1 c2 => ?_
 have eh : ((hands.toNat : Nat) : Int) = hands := Int.toNat_of_nonneg (by lia)
 have ce : ∀ i, -((-cI N bs i).fdiv hands) = ((((cnt N fun j => decide (gn bs j ≤ gn bs i)) + hands.toNat - 1) / hands.toNat : Nat) : Int) := fun i => by
  rw [← ceil_eq (by lia : 0 < hands.toNat), eh]; rfl
 have en : ∀ i, i < N → (((gn (f 4) i).toNat : Nat) : Int) = gn (f 4) i := fun i hi => Int.toNat_of_nonneg (Int.le_of_lt (D.e0 i hi))
 have e : m = c := D.S.law (m1.elim fun i z => ⟨i, z.1, by rw [en i z.1]; exact z.2⟩) (fun i hi => by rw [en i hi]; exact m2 i hi) (c1.elim fun i z => ⟨i, z.1, by rw [← ce i]; exact z.2⟩) fun i hi => by rw [← ce i]; exact c2 i hi
 refine cEq ?_
 rw [decide_eq_true e]
 exact q _ _
end
end Mine
namespace Mine
theorem law6_all (ns : List Int) (hn : ns.length ≤ 63) : runF (go 400) g06_12 [] [.ref 0] [] [.ro (ns.map AV.int)] fun v _ => v = .bool true := by
 refine ⟨[(61, .ref 0)], _, rfl, xEnter (n := 399) ?_⟩
 refine segA (n := 379) hn fun cv fr h k hands width C v1 v2 hd wd f52 ok lk => ?_
 refine segB (n := 379) C v1 v2 hd wd f52 ok lk (filled6_len ns hn) fun N row sec cv fr h kR kP kS B => ?_
 refine segC (n := 379) B fun to dues cv fr h kP kD kT B => ?_
 refine segD (n := 359) B fun cv fr h kB kW k ws us D => ?_
 refine segE (n := 359) D fun fr h bs b E => ?_
 have nl := E.B.nl
 have bv := E.bv
 refine segF (n := 359) E fun cv fr h k F w a f C T I e4 => ?_
 have Bd : ToB N to (gn dues) (gn bs) := ⟨E.Bd.up, fun i hi => by
  rw [bv i hi, E.Bd.bd i hi]
  by_cases c : to i < N
  ·rw [if_pos c, if_pos c, bv _ c]
  ·rw [if_neg c, if_neg c]⟩
 refine segG (n := 359) C T I e4 E.wval Bd E.bl (fun i _ => rfl) fun cv fr h a f S s G => ?_
 exact segH (n := 359) G E.wval E.bl fun fr h => rfl
end Mine
theorem PySem.Challenge.cw_dn0053_06_holds : PySem.Challenge.rw_dn0053_06.Holds :=
 Mine.reduce Mine.law6_all
