import PyProof.Rows.All
import Wide.All
import OpenK.AllK
import Wide.FinOn
import Lean
import PySem.Challenge.RW_st0010_01
open PySem PySem.W PyProof.Rows PySem.Calls
set_option Elab.async false
set_option maxRecDepth 100000
set_option linter.all false
set_option compiler.extract_closed false
section
namespace Mine
noncomputable def nthS (i : Nat) : Option Stmt := PySem.Challenge.pw_st0010_01.main.body[i]?
noncomputable def scopeS : Option Scope := match PySem.Challenge.pw_st0010_01 with | ⟨⟨_, sc, _, _, _⟩, _, _, _, _, _⟩ => some sc
noncomputable def givenS : Option Given := match PySem.Challenge.pw_st0010_01 with | ⟨_, _, _, _, _, g⟩ => some g
noncomputable def fileS : Option Str := match PySem.Challenge.pw_st0010_01 with | ⟨⟨_, _, _, f, _⟩, _, _, _, _, _⟩ => some f
noncomputable def methS (j : Nat) : Option Stmt := match nthS 3 with | some (.ClassDef _ _ _ b _ _ _ _ _ _ _) => b[j]? | _ => none
noncomputable def dictS : Option (List (Option PySem.Expr) × List PySem.Expr) := match nthS 54 with | some (.Assign _ (.Dict ks vs _) _) => some (ks, vs) | _ => none
def s0 : Stmt := by
  obtain h : nthS 0 = some ?x := by exact rfl
  exact ?x
def p21 : Arguments := by
  obtain h : nthS 1 = some (.FunctionDef ?n ?p ?b ?d ?r ?t ?k ?u ?m ?pos) := by exact rfl
  exact ?p
def b21 : List Stmt := by
  obtain h : nthS 1 = some (.FunctionDef ?n ?p ?b ?d ?r ?t ?k ?u ?m ?pos) := by exact rfl
  exact ?b
def k21 : Scope := by
  obtain h : nthS 1 = some (.FunctionDef ?n ?p ?b ?d ?r ?t ?k ?u ?m ?pos) := by exact rfl
  exact ?k
def s1 : Stmt := by
  obtain h : nthS 1 = some (.FunctionDef ?n p21 b21 ?d ?r ?t k21 ?u ?m ?pos) := by exact rfl
  exact .FunctionDef ?n p21 b21 ?d ?r ?t k21 ?u ?m ?pos
def s2 : Stmt := by
  obtain h : nthS 2 = some ?x := by exact rfl
  exact ?x
def p35 : Arguments := by
  obtain h : methS 0 = some (.FunctionDef ?n ?p ?b ?d ?r ?t ?k ?u ?m ?pos) := by exact rfl
  exact ?p
def b35 : List Stmt := by
  obtain h : methS 0 = some (.FunctionDef ?n ?p ?b ?d ?r ?t ?k ?u ?m ?pos) := by exact rfl
  exact ?b
def k35 : Scope := by
  obtain h : methS 0 = some (.FunctionDef ?n ?p ?b ?d ?r ?t ?k ?u ?m ?pos) := by exact rfl
  exact ?k
def m35 : Stmt := by
  obtain h : methS 0 = some (.FunctionDef ?n p35 b35 ?d ?r ?t k35 ?u ?m ?pos) := by exact rfl
  exact .FunctionDef ?n p35 b35 ?d ?r ?t k35 ?u ?m ?pos
def p42 : Arguments := by
  obtain h : methS 1 = some (.FunctionDef ?n ?p ?b ?d ?r ?t ?k ?u ?m ?pos) := by exact rfl
  exact ?p
def b42 : List Stmt := by
  obtain h : methS 1 = some (.FunctionDef ?n ?p ?b ?d ?r ?t ?k ?u ?m ?pos) := by exact rfl
  exact ?b
def k42 : Scope := by
  obtain h : methS 1 = some (.FunctionDef ?n ?p ?b ?d ?r ?t ?k ?u ?m ?pos) := by exact rfl
  exact ?k
def m42 : Stmt := by
  obtain h : methS 1 = some (.FunctionDef ?n p42 b42 ?d ?r ?t k42 ?u ?m ?pos) := by exact rfl
  exact .FunctionDef ?n p42 b42 ?d ?r ?t k42 ?u ?m ?pos
def p49 : Arguments := by
  obtain h : methS 2 = some (.FunctionDef ?n ?p ?b ?d ?r ?t ?k ?u ?m ?pos) := by exact rfl
  exact ?p
def b49 : List Stmt := by
  obtain h : methS 2 = some (.FunctionDef ?n ?p ?b ?d ?r ?t ?k ?u ?m ?pos) := by exact rfl
  exact ?b
def k49 : Scope := by
  obtain h : methS 2 = some (.FunctionDef ?n ?p ?b ?d ?r ?t ?k ?u ?m ?pos) := by exact rfl
  exact ?k
def m49 : Stmt := by
  obtain h : methS 2 = some (.FunctionDef ?n p49 b49 ?d ?r ?t k49 ?u ?m ?pos) := by exact rfl
  exact .FunctionDef ?n p49 b49 ?d ?r ?t k49 ?u ?m ?pos
def p56 : Arguments := by
  obtain h : methS 3 = some (.FunctionDef ?n ?p ?b ?d ?r ?t ?k ?u ?m ?pos) := by exact rfl
  exact ?p
def b56 : List Stmt := by
  obtain h : methS 3 = some (.FunctionDef ?n ?p ?b ?d ?r ?t ?k ?u ?m ?pos) := by exact rfl
  exact ?b
def k56 : Scope := by
  obtain h : methS 3 = some (.FunctionDef ?n ?p ?b ?d ?r ?t ?k ?u ?m ?pos) := by exact rfl
  exact ?k
def m56 : Stmt := by
  obtain h : methS 3 = some (.FunctionDef ?n p56 b56 ?d ?r ?t k56 ?u ?m ?pos) := by exact rfl
  exact .FunctionDef ?n p56 b56 ?d ?r ?t k56 ?u ?m ?pos
def s3 : Stmt := by
  obtain h : nthS 3 = some (.ClassDef ?n ?bs ?kw [m35, m42, m49, m56] ?d ?t ?s ?ts ?bn ?x ?y) := by exact rfl
  exact .ClassDef ?n ?bs ?kw [m35, m42, m49, m56] ?d ?t ?s ?ts ?bn ?x ?y
def s4 : Stmt := by
  obtain h : nthS 4 = some ?x := by exact rfl
  exact ?x
def s5 : Stmt := by
  obtain h : nthS 5 = some ?x := by exact rfl
  exact ?x
def s6 : Stmt := by
  obtain h : nthS 6 = some ?x := by exact rfl
  exact ?x
def s7 : Stmt := by
  obtain h : nthS 7 = some ?x := by exact rfl
  exact ?x
def s8 : Stmt := by
  obtain h : nthS 8 = some ?x := by exact rfl
  exact ?x
def s9 : Stmt := by
  obtain h : nthS 9 = some ?x := by exact rfl
  exact ?x
def s10 : Stmt := by
  obtain h : nthS 10 = some ?x := by exact rfl
  exact ?x
def s11 : Stmt := by
  obtain h : nthS 11 = some ?x := by exact rfl
  exact ?x
def s12 : Stmt := by
  obtain h : nthS 12 = some ?x := by exact rfl
  exact ?x
def s13 : Stmt := by
  obtain h : nthS 13 = some ?x := by exact rfl
  exact ?x
def s14 : Stmt := by
  obtain h : nthS 14 = some ?x := by exact rfl
  exact ?x
def s15 : Stmt := by
  obtain h : nthS 15 = some ?x := by exact rfl
  exact ?x
def s16 : Stmt := by
  obtain h : nthS 16 = some ?x := by exact rfl
  exact ?x
def s17 : Stmt := by
  obtain h : nthS 17 = some ?x := by exact rfl
  exact ?x
def s18 : Stmt := by
  obtain h : nthS 18 = some ?x := by exact rfl
  exact ?x
def s19 : Stmt := by
  obtain h : nthS 19 = some ?x := by exact rfl
  exact ?x
def s20 : Stmt := by
  obtain h : nthS 20 = some ?x := by exact rfl
  exact ?x
def s21 : Stmt := by
  obtain h : nthS 21 = some ?x := by exact rfl
  exact ?x
def s22 : Stmt := by
  obtain h : nthS 22 = some ?x := by exact rfl
  exact ?x
def s23 : Stmt := by
  obtain h : nthS 23 = some ?x := by exact rfl
  exact ?x
def s24 : Stmt := by
  obtain h : nthS 24 = some ?x := by exact rfl
  exact ?x
def s25 : Stmt := by
  obtain h : nthS 25 = some ?x := by exact rfl
  exact ?x
def s26 : Stmt := by
  obtain h : nthS 26 = some ?x := by exact rfl
  exact ?x
def s27 : Stmt := by
  obtain h : nthS 27 = some ?x := by exact rfl
  exact ?x
def s28 : Stmt := by
  obtain h : nthS 28 = some ?x := by exact rfl
  exact ?x
def s29 : Stmt := by
  obtain h : nthS 29 = some ?x := by exact rfl
  exact ?x
def s30 : Stmt := by
  obtain h : nthS 30 = some ?x := by exact rfl
  exact ?x
def s31 : Stmt := by
  obtain h : nthS 31 = some ?x := by exact rfl
  exact ?x
def s32 : Stmt := by
  obtain h : nthS 32 = some ?x := by exact rfl
  exact ?x
def s33 : Stmt := by
  obtain h : nthS 33 = some ?x := by exact rfl
  exact ?x
def s34 : Stmt := by
  obtain h : nthS 34 = some ?x := by exact rfl
  exact ?x
def s35 : Stmt := by
  obtain h : nthS 35 = some ?x := by exact rfl
  exact ?x
def s36 : Stmt := by
  obtain h : nthS 36 = some ?x := by exact rfl
  exact ?x
def s37 : Stmt := by
  obtain h : nthS 37 = some ?x := by exact rfl
  exact ?x
def s38 : Stmt := by
  obtain h : nthS 38 = some ?x := by exact rfl
  exact ?x
def s39 : Stmt := by
  obtain h : nthS 39 = some ?x := by exact rfl
  exact ?x
def s40 : Stmt := by
  obtain h : nthS 40 = some ?x := by exact rfl
  exact ?x
def s41 : Stmt := by
  obtain h : nthS 41 = some ?x := by exact rfl
  exact ?x
def s42 : Stmt := by
  obtain h : nthS 42 = some ?x := by exact rfl
  exact ?x
def s43 : Stmt := by
  obtain h : nthS 43 = some ?x := by exact rfl
  exact ?x
def s44 : Stmt := by
  obtain h : nthS 44 = some ?x := by exact rfl
  exact ?x
def s45 : Stmt := by
  obtain h : nthS 45 = some ?x := by exact rfl
  exact ?x
def s46 : Stmt := by
  obtain h : nthS 46 = some ?x := by exact rfl
  exact ?x
def s47 : Stmt := by
  obtain h : nthS 47 = some ?x := by exact rfl
  exact ?x
def s48 : Stmt := by
  obtain h : nthS 48 = some ?x := by exact rfl
  exact ?x
def s49 : Stmt := by
  obtain h : nthS 49 = some ?x := by exact rfl
  exact ?x
def s50 : Stmt := by
  obtain h : nthS 50 = some ?x := by exact rfl
  exact ?x
def s51 : Stmt := by
  obtain h : nthS 51 = some ?x := by exact rfl
  exact ?x
def s52 : Stmt := by
  obtain h : nthS 52 = some ?x := by exact rfl
  exact ?x
def s53 : Stmt := by
  obtain h : nthS 53 = some ?x := by exact rfl
  exact ?x
def dk0 : List (Option PySem.Expr) := by
  obtain h : (dictS.map fun x => x.1.drop 0) = some (?a0 :: ?a1 :: ?a2 :: ?a3 :: ?a4 :: ?a5 :: ?a6 :: ?a7 :: ?a8 :: ?a9 :: ?a10 :: ?a11 :: ?r) := by exact rfl
  exact [?a0, ?a1, ?a2, ?a3, ?a4, ?a5, ?a6, ?a7, ?a8, ?a9, ?a10, ?a11]
def dv0 : List PySem.Expr := by
  obtain h : (dictS.map fun x => x.2.drop 0) = some (?a0 :: ?a1 :: ?a2 :: ?a3 :: ?a4 :: ?a5 :: ?a6 :: ?a7 :: ?a8 :: ?a9 :: ?a10 :: ?a11 :: ?r) := by exact rfl
  exact [?a0, ?a1, ?a2, ?a3, ?a4, ?a5, ?a6, ?a7, ?a8, ?a9, ?a10, ?a11]
def dk1 : List (Option PySem.Expr) := by
  obtain h : (dictS.map fun x => x.1.drop 12) = some (?a0 :: ?a1 :: ?a2 :: ?a3 :: ?a4 :: ?a5 :: ?a6 :: ?a7 :: ?a8 :: ?a9 :: ?a10 :: ?a11 :: ?r) := by exact rfl
  exact [?a0, ?a1, ?a2, ?a3, ?a4, ?a5, ?a6, ?a7, ?a8, ?a9, ?a10, ?a11]
def dv1 : List PySem.Expr := by
  obtain h : (dictS.map fun x => x.2.drop 12) = some (?a0 :: ?a1 :: ?a2 :: ?a3 :: ?a4 :: ?a5 :: ?a6 :: ?a7 :: ?a8 :: ?a9 :: ?a10 :: ?a11 :: ?r) := by exact rfl
  exact [?a0, ?a1, ?a2, ?a3, ?a4, ?a5, ?a6, ?a7, ?a8, ?a9, ?a10, ?a11]
def dk2 : List (Option PySem.Expr) := by
  obtain h : (dictS.map fun x => x.1.drop 24) = some (?a0 :: ?a1 :: ?a2 :: ?a3 :: ?a4 :: ?a5 :: ?a6 :: ?a7 :: ?a8 :: ?a9 :: ?a10 :: ?a11 :: ?r) := by exact rfl
  exact [?a0, ?a1, ?a2, ?a3, ?a4, ?a5, ?a6, ?a7, ?a8, ?a9, ?a10, ?a11]
def dv2 : List PySem.Expr := by
  obtain h : (dictS.map fun x => x.2.drop 24) = some (?a0 :: ?a1 :: ?a2 :: ?a3 :: ?a4 :: ?a5 :: ?a6 :: ?a7 :: ?a8 :: ?a9 :: ?a10 :: ?a11 :: ?r) := by exact rfl
  exact [?a0, ?a1, ?a2, ?a3, ?a4, ?a5, ?a6, ?a7, ?a8, ?a9, ?a10, ?a11]
def dk3 : List (Option PySem.Expr) := by
  obtain h : (dictS.map fun x => x.1.drop 36) = some [?a0, ?a1, ?a2, ?a3, ?a4, ?a5, ?a6, ?a7, ?a8, ?a9, ?a10, ?a11] := by exact rfl
  exact [?a0, ?a1, ?a2, ?a3, ?a4, ?a5, ?a6, ?a7, ?a8, ?a9, ?a10, ?a11]
def dv3 : List PySem.Expr := by
  obtain h : (dictS.map fun x => x.2.drop 36) = some [?a0, ?a1, ?a2, ?a3, ?a4, ?a5, ?a6, ?a7, ?a8, ?a9, ?a10, ?a11] := by exact rfl
  exact [?a0, ?a1, ?a2, ?a3, ?a4, ?a5, ?a6, ?a7, ?a8, ?a9, ?a10, ?a11]
def s54 : Stmt := by
  obtain h : nthS 54 = some (.Assign ?x (.Dict ?ks ?vs ?y) ?z) := by exact rfl
  exact .Assign ?x (.Dict (dk0 ++ (dk1 ++ (dk2 ++ dk3))) (dv0 ++ (dv1 ++ (dv2 ++ dv3))) ?y) ?z
def p73 : Arguments := by
  obtain h : nthS 55 = some (.FunctionDef ?n ?p ?b ?d ?r ?t ?k ?u ?m ?pos) := by exact rfl
  exact ?p
def b73 : List Stmt := by
  obtain h : nthS 55 = some (.FunctionDef ?n ?p ?b ?d ?r ?t ?k ?u ?m ?pos) := by exact rfl
  exact ?b
def k73 : Scope := by
  obtain h : nthS 55 = some (.FunctionDef ?n ?p ?b ?d ?r ?t ?k ?u ?m ?pos) := by exact rfl
  exact ?k
def s55 : Stmt := by
  obtain h : nthS 55 = some (.FunctionDef ?n p73 b73 ?d ?r ?t k73 ?u ?m ?pos) := by exact rfl
  exact .FunctionDef ?n p73 b73 ?d ?r ?t k73 ?u ?m ?pos
def s56 : Stmt := by
  obtain h : nthS 56 = some ?x := by exact rfl
  exact ?x
def p80 : Arguments := by
  obtain h : nthS 57 = some (.FunctionDef ?n ?p ?b ?d ?r ?t ?k ?u ?m ?pos) := by exact rfl
  exact ?p
def b80 : List Stmt := by
  obtain h : nthS 57 = some (.FunctionDef ?n ?p ?b ?d ?r ?t ?k ?u ?m ?pos) := by exact rfl
  exact ?b
def k80 : Scope := by
  obtain h : nthS 57 = some (.FunctionDef ?n ?p ?b ?d ?r ?t ?k ?u ?m ?pos) := by exact rfl
  exact ?k
def s57 : Stmt := by
  obtain h : nthS 57 = some (.FunctionDef ?n p80 b80 ?d ?r ?t k80 ?u ?m ?pos) := by exact rfl
  exact .FunctionDef ?n p80 b80 ?d ?r ?t k80 ?u ?m ?pos
def p87 : Arguments := by
  obtain h : nthS 58 = some (.FunctionDef ?n ?p ?b ?d ?r ?t ?k ?u ?m ?pos) := by exact rfl
  exact ?p
def b87 : List Stmt := by
  obtain h : nthS 58 = some (.FunctionDef ?n ?p ?b ?d ?r ?t ?k ?u ?m ?pos) := by exact rfl
  exact ?b
def k87 : Scope := by
  obtain h : nthS 58 = some (.FunctionDef ?n ?p ?b ?d ?r ?t ?k ?u ?m ?pos) := by exact rfl
  exact ?k
def s58 : Stmt := by
  obtain h : nthS 58 = some (.FunctionDef ?n p87 b87 ?d ?r ?t k87 ?u ?m ?pos) := by exact rfl
  exact .FunctionDef ?n p87 b87 ?d ?r ?t k87 ?u ?m ?pos
def p94 : Arguments := by
  obtain h : nthS 59 = some (.FunctionDef ?n ?p ?b ?d ?r ?t ?k ?u ?m ?pos) := by exact rfl
  exact ?p
def b94 : List Stmt := by
  obtain h : nthS 59 = some (.FunctionDef ?n ?p ?b ?d ?r ?t ?k ?u ?m ?pos) := by exact rfl
  exact ?b
def k94 : Scope := by
  obtain h : nthS 59 = some (.FunctionDef ?n ?p ?b ?d ?r ?t ?k ?u ?m ?pos) := by exact rfl
  exact ?k
def s59 : Stmt := by
  obtain h : nthS 59 = some (.FunctionDef ?n p94 b94 ?d ?r ?t k94 ?u ?m ?pos) := by exact rfl
  exact .FunctionDef ?n p94 b94 ?d ?r ?t k94 ?u ?m ?pos
def p101 : Arguments := by
  obtain h : nthS 60 = some (.FunctionDef ?n ?p ?b ?d ?r ?t ?k ?u ?m ?pos) := by exact rfl
  exact ?p
def b101 : List Stmt := by
  obtain h : nthS 60 = some (.FunctionDef ?n ?p ?b ?d ?r ?t ?k ?u ?m ?pos) := by exact rfl
  exact ?b
def k101 : Scope := by
  obtain h : nthS 60 = some (.FunctionDef ?n ?p ?b ?d ?r ?t ?k ?u ?m ?pos) := by exact rfl
  exact ?k
def s60 : Stmt := by
  obtain h : nthS 60 = some (.FunctionDef ?n p101 b101 ?d ?r ?t k101 ?u ?m ?pos) := by exact rfl
  exact .FunctionDef ?n p101 b101 ?d ?r ?t k101 ?u ?m ?pos
def p106 : Arguments := by
  obtain h : nthS 61 = some (.FunctionDef ?n ?p ?b ?d ?r ?t ?k ?u ?m ?pos) := by exact rfl
  exact ?p
def b106 : List Stmt := by
  obtain h : nthS 61 = some (.FunctionDef ?n ?p ?b ?d ?r ?t ?k ?u ?m ?pos) := by exact rfl
  exact ?b
def k106 : Scope := by
  obtain h : nthS 61 = some (.FunctionDef ?n ?p ?b ?d ?r ?t ?k ?u ?m ?pos) := by exact rfl
  exact ?k
def s61 : Stmt := by
  obtain h : nthS 61 = some (.FunctionDef ?n p106 b106 ?d ?r ?t k106 ?u ?m ?pos) := by exact rfl
  exact .FunctionDef ?n p106 b106 ?d ?r ?t k106 ?u ?m ?pos
def p113 : Arguments := by
  obtain h : nthS 62 = some (.FunctionDef ?n ?p ?b ?d ?r ?t ?k ?u ?m ?pos) := by exact rfl
  exact ?p
def b113 : List Stmt := by
  obtain h : nthS 62 = some (.FunctionDef ?n ?p ?b ?d ?r ?t ?k ?u ?m ?pos) := by exact rfl
  exact ?b
def k113 : Scope := by
  obtain h : nthS 62 = some (.FunctionDef ?n ?p ?b ?d ?r ?t ?k ?u ?m ?pos) := by exact rfl
  exact ?k
def s62 : Stmt := by
  obtain h : nthS 62 = some (.FunctionDef ?n p113 b113 ?d ?r ?t k113 ?u ?m ?pos) := by exact rfl
  exact .FunctionDef ?n p113 b113 ?d ?r ?t k113 ?u ?m ?pos
def p118 : Arguments := by
  obtain h : nthS 63 = some (.FunctionDef ?n ?p ?b ?d ?r ?t ?k ?u ?m ?pos) := by exact rfl
  exact ?p
def b118 : List Stmt := by
  obtain h : nthS 63 = some (.FunctionDef ?n ?p ?b ?d ?r ?t ?k ?u ?m ?pos) := by exact rfl
  exact ?b
def k118 : Scope := by
  obtain h : nthS 63 = some (.FunctionDef ?n ?p ?b ?d ?r ?t ?k ?u ?m ?pos) := by exact rfl
  exact ?k
def s63 : Stmt := by
  obtain h : nthS 63 = some (.FunctionDef ?n p118 b118 ?d ?r ?t k118 ?u ?m ?pos) := by exact rfl
  exact .FunctionDef ?n p118 b118 ?d ?r ?t k118 ?u ?m ?pos
def p123 : Arguments := by
  obtain h : nthS 64 = some (.FunctionDef ?n ?p ?b ?d ?r ?t ?k ?u ?m ?pos) := by exact rfl
  exact ?p
def b123 : List Stmt := by
  obtain h : nthS 64 = some (.FunctionDef ?n ?p ?b ?d ?r ?t ?k ?u ?m ?pos) := by exact rfl
  exact ?b
def k123 : Scope := by
  obtain h : nthS 64 = some (.FunctionDef ?n ?p ?b ?d ?r ?t ?k ?u ?m ?pos) := by exact rfl
  exact ?k
def s64 : Stmt := by
  obtain h : nthS 64 = some (.FunctionDef ?n p123 b123 ?d ?r ?t k123 ?u ?m ?pos) := by exact rfl
  exact .FunctionDef ?n p123 b123 ?d ?r ?t k123 ?u ?m ?pos
def gv : Given := by
  obtain h : givenS = some ?x := by exact rfl
  exact ?x
def fl : Str := by
  obtain h : fileS = some ?x := by exact rfl
  exact ?x
noncomputable def namesS : Option (List (Str × NameKind)) := scopeS.map (·.names)
def nm0 : List (Str × NameKind) := by
  obtain h : (namesS.map fun x => x.drop 0) = some (?a0 :: ?a1 :: ?a2 :: ?a3 :: ?a4 :: ?a5 :: ?a6 :: ?a7 :: ?a8 :: ?a9 :: ?a10 :: ?a11 :: ?r) := by exact rfl
  exact [?a0, ?a1, ?a2, ?a3, ?a4, ?a5, ?a6, ?a7, ?a8, ?a9, ?a10, ?a11]
def nm1 : List (Str × NameKind) := by
  obtain h : (namesS.map fun x => x.drop 12) = some (?a0 :: ?a1 :: ?a2 :: ?a3 :: ?a4 :: ?a5 :: ?a6 :: ?a7 :: ?a8 :: ?a9 :: ?a10 :: ?a11 :: ?r) := by exact rfl
  exact [?a0, ?a1, ?a2, ?a3, ?a4, ?a5, ?a6, ?a7, ?a8, ?a9, ?a10, ?a11]
def nm2 : List (Str × NameKind) := by
  obtain h : (namesS.map fun x => x.drop 24) = some (?a0 :: ?a1 :: ?a2 :: ?a3 :: ?a4 :: ?a5 :: ?a6 :: ?a7 :: ?a8 :: ?a9 :: ?a10 :: ?a11 :: ?r) := by exact rfl
  exact [?a0, ?a1, ?a2, ?a3, ?a4, ?a5, ?a6, ?a7, ?a8, ?a9, ?a10, ?a11]
def nm3 : List (Str × NameKind) := by
  obtain h : (namesS.map fun x => x.drop 36) = some (?a0 :: ?a1 :: ?a2 :: ?a3 :: ?a4 :: ?a5 :: ?a6 :: ?a7 :: ?a8 :: ?a9 :: ?a10 :: ?a11 :: ?r) := by exact rfl
  exact [?a0, ?a1, ?a2, ?a3, ?a4, ?a5, ?a6, ?a7, ?a8, ?a9, ?a10, ?a11]
def nm4 : List (Str × NameKind) := by
  obtain h : (namesS.map fun x => x.drop 48) = some (?a0 :: ?a1 :: ?a2 :: ?a3 :: ?a4 :: ?a5 :: ?a6 :: ?a7 :: ?a8 :: ?a9 :: ?a10 :: ?a11 :: ?r) := by exact rfl
  exact [?a0, ?a1, ?a2, ?a3, ?a4, ?a5, ?a6, ?a7, ?a8, ?a9, ?a10, ?a11]
def nm5 : List (Str × NameKind) := by
  obtain h : (namesS.map fun x => x.drop 60) = some [?a0, ?a1] := by exact rfl
  exact [?a0, ?a1]
def sc : Scope := by
  obtain h : scopeS = some ⟨?a, ?b, ?c, ?d, ?e⟩ := by exact rfl
  exact ⟨?a, nm0 ++ (nm1 ++ (nm2 ++ (nm3 ++ (nm4 ++ (nm5))))), ?c, ?d, ?e⟩
def c0 : List Stmt := [s0, s1, s2, s3, s4, s5, s6, s7, s8, s9, s10]
def c1 : List Stmt := [s11, s12, s13, s14, s15, s16, s17, s18, s19, s20, s21]
def c2 : List Stmt := [s22, s23, s24, s25, s26, s27, s28, s29, s30, s31, s32]
def c3 : List Stmt := [s33, s34, s35, s36, s37, s38, s39, s40, s41, s42, s43]
def c4 : List Stmt := [s44, s45, s46, s47, s48, s49, s50, s51, s52, s53, s54]
def c5 : List Stmt := [s55, s56, s57, s58, s59, s60, s61, s62, s63, s64]
def P : Program := { main := { body := c0 ++ (c1 ++ (c2 ++ (c3 ++ (c4 ++ (c5))))), scope := sc, futureAnnotations := false, file := fl, more := [] }, modules := [], parses := [], absent := [], harvested := [], given := gv }
def law : OpenLaw := { prog := P, name := (PySem.Str.ofString "law"), about := [(PySem.Str.ofString "_strcoll")], foot := 8, most := some 63, bound := none, writes := false }
theorem law_eq : law = PySem.Challenge.rw_st0010_01 := rfl
noncomputable abbrev de (q : Params) (n : Str) (t : Nat) (v : Value) : DictEntry := { hash := PyData.keyHash q n, key := Value.str n t, val := v }
noncomputable def o2 : Obj := { cls := Value.none, data := Data.dict #[] }
noncomputable def e3x0 (q : Params) : List DictEntry := [de q (Str.ofString "__name__") 165 (Value.str (Str.ofString "law_st0010_01") 461), de q (Str.ofString "__doc__") 166 (Value.none), de q (Str.ofString "__package__") 167 (Value.none), de q (Str.ofString "__loader__") 168 (Value.builtin "__main__.__loader__#opaque"), de q (Str.ofString "__spec__") 169 (Value.none), de q (Str.ofString "__annotations__") 170 (Value.ref 6), de q (Str.ofString "__builtins__") 171 (Value.ref 4), de q (Str.ofString "__file__") 173 (Value.str (Str.ofString "/claim/cut.py") 172), de q (Str.ofString "__cached__") 174 (Value.none), de q (Str.ofString "_strcoll") 196 (Value.ref 21), de q (Str.ofString "_netrclex") 256 (Value.ref 59), de q (Str.ofString "ENDMARKER") 260 (Value.int 0 259)]
noncomputable def e3x1 (q : Params) : List DictEntry := [de q (Str.ofString "LPAR") 262 (Value.int 7 261), de q (Str.ofString "RPAR") 264 (Value.int 8 263), de q (Str.ofString "LSQB") 266 (Value.int 9 265), de q (Str.ofString "RSQB") 268 (Value.int 10 267), de q (Str.ofString "COLON") 270 (Value.int 11 269), de q (Str.ofString "COMMA") 272 (Value.int 12 271), de q (Str.ofString "SEMI") 274 (Value.int 13 273), de q (Str.ofString "PLUS") 276 (Value.int 14 275), de q (Str.ofString "MINUS") 278 (Value.int 15 277), de q (Str.ofString "STAR") 280 (Value.int 16 279), de q (Str.ofString "SLASH") 282 (Value.int 17 281), de q (Str.ofString "VBAR") 284 (Value.int 18 283)]
noncomputable def e3x2 (q : Params) : List DictEntry := [de q (Str.ofString "AMPER") 286 (Value.int 19 285), de q (Str.ofString "LESS") 288 (Value.int 20 287), de q (Str.ofString "GREATER") 290 (Value.int 21 289), de q (Str.ofString "EQUAL") 292 (Value.int 22 291), de q (Str.ofString "DOT") 294 (Value.int 23 293), de q (Str.ofString "PERCENT") 296 (Value.int 24 295), de q (Str.ofString "LBRACE") 298 (Value.int 25 297), de q (Str.ofString "RBRACE") 300 (Value.int 26 299), de q (Str.ofString "EQEQUAL") 302 (Value.int 27 301), de q (Str.ofString "NOTEQUAL") 304 (Value.int 28 303), de q (Str.ofString "LESSEQUAL") 306 (Value.int 29 305), de q (Str.ofString "GREATEREQUAL") 308 (Value.int 30 307)]
noncomputable def e3x3 (q : Params) : List DictEntry := [de q (Str.ofString "TILDE") 310 (Value.int 31 309), de q (Str.ofString "CIRCUMFLEX") 312 (Value.int 32 311), de q (Str.ofString "LEFTSHIFT") 314 (Value.int 33 313), de q (Str.ofString "RIGHTSHIFT") 316 (Value.int 34 315), de q (Str.ofString "DOUBLESTAR") 318 (Value.int 35 317), de q (Str.ofString "PLUSEQUAL") 320 (Value.int 36 319), de q (Str.ofString "MINEQUAL") 322 (Value.int 37 321), de q (Str.ofString "STAREQUAL") 324 (Value.int 38 323), de q (Str.ofString "SLASHEQUAL") 326 (Value.int 39 325), de q (Str.ofString "PERCENTEQUAL") 328 (Value.int 40 327), de q (Str.ofString "AMPEREQUAL") 330 (Value.int 41 329), de q (Str.ofString "VBAREQUAL") 332 (Value.int 42 331)]
noncomputable def e3x4 (q : Params) : List DictEntry := [de q (Str.ofString "CIRCUMFLEXEQUAL") 334 (Value.int 43 333), de q (Str.ofString "LEFTSHIFTEQUAL") 336 (Value.int 44 335), de q (Str.ofString "RIGHTSHIFTEQUAL") 338 (Value.int 45 337), de q (Str.ofString "DOUBLESTAREQUAL") 340 (Value.int 46 339), de q (Str.ofString "DOUBLESLASH") 342 (Value.int 47 341), de q (Str.ofString "DOUBLESLASHEQUAL") 344 (Value.int 48 343), de q (Str.ofString "AT") 346 (Value.int 49 345), de q (Str.ofString "ATEQUAL") 348 (Value.int 50 347), de q (Str.ofString "RARROW") 350 (Value.int 51 349), de q (Str.ofString "ELLIPSIS") 352 (Value.int 52 351), de q (Str.ofString "COLONEQUAL") 354 (Value.int 53 353), de q (Str.ofString "EXCLAMATION") 356 (Value.int 54 355)]
noncomputable def e3x5 (q : Params) : List DictEntry := [de q (Str.ofString "EXACT_TOKEN_TYPES") 453 (Value.ref 64), de q (Str.ofString "ISEOF") 460 (Value.ref 73), de q (Str.ofString "_law_names") 468 (Value.ref 80), de q (Str.ofString "_law_lexer") 477 (Value.ref 87), de q (Str.ofString "_law_line") 488 (Value.ref 94), de q (Str.ofString "_law_ballot") 499 (Value.ref 101), de q (Str.ofString "_law_text") 505 (Value.ref 106), de q (Str.ofString "_law_lines") 516 (Value.ref 113), de q (Str.ofString "_law_middle") 522 (Value.ref 118), de q (Str.ofString "law") 528 (Value.ref 123)]
noncomputable def o3 (q : Params) : Obj := { cls := Value.type "dict", data := Data.dict (List.toArray (e3x0 q ++ (e3x1 q ++ (e3x2 q ++ (e3x3 q ++ (e3x4 q ++ (e3x5 q))))))) 70 }
noncomputable def o6 : Obj := { cls := Value.type "dict", data := Data.dict #[] }
noncomputable def o15 : Obj := { cls := Value.type "tuple", data := Data.seq #[] }
noncomputable def o17 : Obj := { cls := Value.type "tuple", data := Data.seq #[Value.str (Str.ofString "a") 192, Value.str (Str.ofString "b") 193] }
noncomputable def o18 : Obj := { cls := Value.type "tuple", data := Data.seq #[] }
noncomputable def o20 : Obj := { cls := Value.type "code", data := Data.fields #[Value.str (Str.ofString "_strcoll") 189, Value.str (Str.ofString "_strcoll") 190, Value.str (Str.ofString "/claim/cut.py") 191, Value.int 2 0, Value.int 2 0, Value.int 0 0, Value.int 0 0, Value.int 3 0, Value.ref 15, Value.bool true, Value.int 181 0, Value.ref 16, Value.none, Value.ref 17, Value.ref 18, Value.ref 19, Value.int 194 0, Value.int 2 0, Value.str (Str.ofString "/claim/cut.py") 195] }
noncomputable def o21 : Obj := { cls := Value.type "function", data := Data.func { name := Str.ofString "_strcoll", qualname := Str.ofString "_strcoll", params := p21, body := FuncBody.stmts b21, scope := k21, globals := 3, closure := [], defaults := Value.none, kwdefaults := Value.none, pyModule := Value.str (Str.ofString "cpy313.locale") 187, code := Value.ref 20 } }
noncomputable def o29 : Obj := { cls := Value.type "tuple", data := Data.seq #[] }
noncomputable def o31 : Obj := { cls := Value.type "tuple", data := Data.seq #[Value.str (Str.ofString "self") 214, Value.str (Str.ofString "fp") 215] }
noncomputable def o32 : Obj := { cls := Value.type "tuple", data := Data.seq #[] }
noncomputable def o34 : Obj := { cls := Value.type "code", data := Data.fields #[Value.str (Str.ofString "__init__") 211, Value.str (Str.ofString "_netrclex.__init__") 212, Value.str (Str.ofString "/claim/cut.py") 213, Value.int 7 0, Value.int 2 0, Value.int 0 0, Value.int 0 0, Value.int 3 0, Value.ref 29, Value.bool true, Value.int 181 0, Value.ref 30, Value.none, Value.ref 31, Value.ref 32, Value.ref 33, Value.int 216 0, Value.int 7 0, Value.str (Str.ofString "/claim/cut.py") 217] }
noncomputable def o35 : Obj := { cls := Value.type "function", data := Data.func { name := Str.ofString "__init__", qualname := Str.ofString "_netrclex.__init__", params := p35, body := FuncBody.stmts b35, scope := k35, globals := 3, closure := [], defaults := Value.none, kwdefaults := Value.none, pyModule := Value.str (Str.ofString "cpy313.netrc") 197, code := Value.ref 34 } }
noncomputable def o36 : Obj := { cls := Value.type "tuple", data := Data.seq #[] }
noncomputable def o38 : Obj := { cls := Value.type "tuple", data := Data.seq #[Value.str (Str.ofString "self") 222, Value.str (Str.ofString "ch") 223] }
noncomputable def o39 : Obj := { cls := Value.type "tuple", data := Data.seq #[] }
noncomputable def o41 : Obj := { cls := Value.type "code", data := Data.fields #[Value.str (Str.ofString "_read_char") 219, Value.str (Str.ofString "_netrclex._read_char") 220, Value.str (Str.ofString "/claim/cut.py") 221, Value.int 13 0, Value.int 1 0, Value.int 0 0, Value.int 0 0, Value.int 3 0, Value.ref 36, Value.bool true, Value.int 181 0, Value.ref 37, Value.none, Value.ref 38, Value.ref 39, Value.ref 40, Value.int 224 0, Value.int 13 0, Value.str (Str.ofString "/claim/cut.py") 225] }
noncomputable def o42 : Obj := { cls := Value.type "function", data := Data.func { name := Str.ofString "_read_char", qualname := Str.ofString "_netrclex._read_char", params := p42, body := FuncBody.stmts b42, scope := k42, globals := 3, closure := [], defaults := Value.none, kwdefaults := Value.none, pyModule := Value.str (Str.ofString "cpy313.netrc") 197, code := Value.ref 41 } }
noncomputable def o43 : Obj := { cls := Value.type "tuple", data := Data.seq #[] }
noncomputable def o45 : Obj := { cls := Value.type "tuple", data := Data.seq #[Value.str (Str.ofString "self") 230, Value.str (Str.ofString "token") 231, Value.str (Str.ofString "fiter") 232, Value.str (Str.ofString "ch") 233] }
noncomputable def o46 : Obj := { cls := Value.type "tuple", data := Data.seq #[] }
noncomputable def o48 : Obj := { cls := Value.type "code", data := Data.fields #[Value.str (Str.ofString "get_token") 227, Value.str (Str.ofString "_netrclex.get_token") 228, Value.str (Str.ofString "/claim/cut.py") 229, Value.int 19 0, Value.int 1 0, Value.int 0 0, Value.int 0 0, Value.int 3 0, Value.ref 43, Value.bool true, Value.int 181 0, Value.ref 44, Value.none, Value.ref 45, Value.ref 46, Value.ref 47, Value.int 234 0, Value.int 19 0, Value.str (Str.ofString "/claim/cut.py") 235] }
noncomputable def o49 : Obj := { cls := Value.type "function", data := Data.func { name := Str.ofString "get_token", qualname := Str.ofString "_netrclex.get_token", params := p49, body := FuncBody.stmts b49, scope := k49, globals := 3, closure := [], defaults := Value.none, kwdefaults := Value.none, pyModule := Value.str (Str.ofString "cpy313.netrc") 197, code := Value.ref 48 } }
noncomputable def o50 : Obj := { cls := Value.type "tuple", data := Data.seq #[] }
noncomputable def o52 : Obj := { cls := Value.type "tuple", data := Data.seq #[Value.str (Str.ofString "self") 240, Value.str (Str.ofString "token") 241] }
noncomputable def o53 : Obj := { cls := Value.type "tuple", data := Data.seq #[] }
noncomputable def o55 : Obj := { cls := Value.type "code", data := Data.fields #[Value.str (Str.ofString "push_token") 237, Value.str (Str.ofString "_netrclex.push_token") 238, Value.str (Str.ofString "/claim/cut.py") 239, Value.int 46 0, Value.int 2 0, Value.int 0 0, Value.int 0 0, Value.int 3 0, Value.ref 50, Value.bool true, Value.int 181 0, Value.ref 51, Value.none, Value.ref 52, Value.ref 53, Value.ref 54, Value.int 242 0, Value.int 46 0, Value.str (Str.ofString "/claim/cut.py") 243] }
noncomputable def o56 : Obj := { cls := Value.type "function", data := Data.func { name := Str.ofString "push_token", qualname := Str.ofString "_netrclex.push_token", params := p56, body := FuncBody.stmts b56, scope := k56, globals := 3, closure := [], defaults := Value.none, kwdefaults := Value.none, pyModule := Value.str (Str.ofString "cpy313.netrc") 197, code := Value.ref 55 } }
noncomputable def o57 : Obj := { cls := Value.type "tuple", data := Data.seq #[Value.str (Str.ofString "instream") 245, Value.str (Str.ofString "lineno") 246, Value.str (Str.ofString "pushback") 247, Value.str (Str.ofString "whitespace") 248] }
noncomputable def e58x0 (q : Params) : List DictEntry := [de q (Str.ofString "__module__") 206 (Value.str (Str.ofString "cpy313.netrc") 197), de q (Str.ofString "__firstlineno__") 210 (Value.int 5 209), de q (Str.ofString "__init__") 218 (Value.ref 35), de q (Str.ofString "_read_char") 226 (Value.ref 42), de q (Str.ofString "get_token") 236 (Value.ref 49), de q (Str.ofString "push_token") 244 (Value.ref 56), de q (Str.ofString "__static_attributes__") 249 (Value.ref 57), de q (Str.ofString "__dict__") 251 (Value.ref 60), de q (Str.ofString "__weakref__") 253 (Value.ref 61), de q (Str.ofString "__doc__") 254 (Value.none)]
noncomputable def o58 (q : Params) : Obj := { cls := Value.type "dict", data := Data.dict (List.toArray (e58x0 q)) 4 }
noncomputable def o59 : Obj := { cls := Value.type "type", data := Data.cls { name := Str.ofString "_netrclex", bases := [Value.type "object"], mro := [Value.ref 59, Value.type "object"], ns := 58, qualname := Str.ofString "_netrclex" }, slots := #[none, none, some (Value.str (Str.ofString "_netrclex") 199), some (Value.str (Str.ofString "_netrclex") 207), some (Value.builtin "object.__new__"), some (Value.bool true)] }
noncomputable def o60 : Obj := { cls := Value.type "getset_descriptor", data := Data.fields #[Value.str (Str.ofString "__dict__") 250, Value.ref 59, Value.builtin "function.__dict__", Value.builtin "function.__dict__#set"] }
noncomputable def o61 : Obj := { cls := Value.type "getset_descriptor", data := Data.fields #[Value.str (Str.ofString "__weakref__") 252, Value.ref 59, Value.builtin "ExceptionGroup.__weakref__", Value.none] }
noncomputable def e64x0 (q : Params) : List DictEntry := [de q (Str.ofString "!") 357 (Value.int 54 355), de q (Str.ofString "!=") 359 (Value.int 28 303), de q (Str.ofString "%") 361 (Value.int 24 295), de q (Str.ofString "%=") 363 (Value.int 40 327), de q (Str.ofString "&") 365 (Value.int 19 285), de q (Str.ofString "&=") 367 (Value.int 41 329), de q (Str.ofString "(") 369 (Value.int 7 261), de q (Str.ofString ")") 371 (Value.int 8 263), de q (Str.ofString "*") 373 (Value.int 16 279), de q (Str.ofString "**") 375 (Value.int 35 317), de q (Str.ofString "**=") 377 (Value.int 46 339), de q (Str.ofString "*=") 379 (Value.int 38 323)]
noncomputable def e64x1 (q : Params) : List DictEntry := [de q (Str.ofString "+") 381 (Value.int 14 275), de q (Str.ofString "+=") 383 (Value.int 36 319), de q (Str.ofString ",") 385 (Value.int 12 271), de q (Str.ofString "-") 387 (Value.int 15 277), de q (Str.ofString "-=") 389 (Value.int 37 321), de q (Str.ofString "->") 391 (Value.int 51 349), de q (Str.ofString ".") 393 (Value.int 23 293), de q (Str.ofString "...") 395 (Value.int 52 351), de q (Str.ofString "/") 397 (Value.int 17 281), de q (Str.ofString "//") 399 (Value.int 47 341), de q (Str.ofString "//=") 401 (Value.int 48 343), de q (Str.ofString "/=") 403 (Value.int 39 325)]
noncomputable def e64x2 (q : Params) : List DictEntry := [de q (Str.ofString ":") 405 (Value.int 11 269), de q (Str.ofString ":=") 407 (Value.int 53 353), de q (Str.ofString ";") 409 (Value.int 13 273), de q (Str.ofString "<") 411 (Value.int 20 287), de q (Str.ofString "<<") 413 (Value.int 33 313), de q (Str.ofString "<<=") 415 (Value.int 44 335), de q (Str.ofString "<=") 417 (Value.int 29 305), de q (Str.ofString "=") 419 (Value.int 22 291), de q (Str.ofString "==") 421 (Value.int 27 301), de q (Str.ofString ">") 423 (Value.int 21 289), de q (Str.ofString ">=") 425 (Value.int 30 307), de q (Str.ofString ">>") 426 (Value.int 34 315)]
noncomputable def e64x3 (q : Params) : List DictEntry := [de q (Str.ofString ">>=") 427 (Value.int 45 337), de q (Str.ofString "@") 428 (Value.int 49 345), de q (Str.ofString "@=") 429 (Value.int 50 347), de q (Str.ofString "[") 430 (Value.int 9 265), de q (Str.ofString "]") 431 (Value.int 10 267), de q (Str.ofString "^") 432 (Value.int 32 311), de q (Str.ofString "^=") 433 (Value.int 43 333), de q (Str.ofString "{") 434 (Value.int 25 297), de q (Str.ofString "|") 435 (Value.int 18 283), de q (Str.ofString "|=") 436 (Value.int 42 331), de q (Str.ofString "}") 437 (Value.int 26 299), de q (Str.ofString "~") 438 (Value.int 31 309)]
noncomputable def o64 (q : Params) : Obj := { cls := Value.type "dict", data := Data.dict (List.toArray (e64x0 q ++ (e64x1 q ++ (e64x2 q ++ (e64x3 q))))) 48 }
noncomputable def o67 : Obj := { cls := Value.type "tuple", data := Data.seq #[] }
noncomputable def o69 : Obj := { cls := Value.type "tuple", data := Data.seq #[Value.str (Str.ofString "x") 457] }
noncomputable def o70 : Obj := { cls := Value.type "tuple", data := Data.seq #[] }
noncomputable def o72 : Obj := { cls := Value.type "code", data := Data.fields #[Value.str (Str.ofString "ISEOF") 454, Value.str (Str.ofString "ISEOF") 455, Value.str (Str.ofString "/claim/cut.py") 456, Value.int 99 0, Value.int 1 0, Value.int 0 0, Value.int 0 0, Value.int 3 0, Value.ref 67, Value.bool true, Value.int 181 0, Value.ref 68, Value.none, Value.ref 69, Value.ref 70, Value.ref 71, Value.int 458 0, Value.int 99 0, Value.str (Str.ofString "/claim/cut.py") 459] }
noncomputable def o73 : Obj := { cls := Value.type "function", data := Data.func { name := Str.ofString "ISEOF", qualname := Str.ofString "ISEOF", params := p73, body := FuncBody.stmts b73, scope := k73, globals := 3, closure := [], defaults := Value.none, kwdefaults := Value.none, pyModule := Value.str (Str.ofString "cpy313.token") 257, code := Value.ref 72 } }
noncomputable def o74 : Obj := { cls := Value.type "tuple", data := Data.seq #[] }
noncomputable def o76 : Obj := { cls := Value.type "tuple", data := Data.seq #[] }
noncomputable def o77 : Obj := { cls := Value.type "tuple", data := Data.seq #[] }
noncomputable def o79 : Obj := { cls := Value.type "code", data := Data.fields #[Value.str (Str.ofString "_law_names") 463, Value.str (Str.ofString "_law_names") 464, Value.str (Str.ofString "/claim/cut.py") 465, Value.int 102 0, Value.int 0 0, Value.int 0 0, Value.int 0 0, Value.int 3 0, Value.ref 74, Value.bool true, Value.int 181 0, Value.ref 75, Value.none, Value.ref 76, Value.ref 77, Value.ref 78, Value.int 466 0, Value.int 102 0, Value.str (Str.ofString "/claim/cut.py") 467] }
noncomputable def o80 : Obj := { cls := Value.type "function", data := Data.func { name := Str.ofString "_law_names", qualname := Str.ofString "_law_names", params := p80, body := FuncBody.stmts b80, scope := k80, globals := 3, closure := [], defaults := Value.none, kwdefaults := Value.none, pyModule := Value.str (Str.ofString "law_st0010_01") 461, code := Value.ref 79 } }
noncomputable def o81 : Obj := { cls := Value.type "tuple", data := Data.seq #[] }
noncomputable def o83 : Obj := { cls := Value.type "tuple", data := Data.seq #[Value.str (Str.ofString "text") 472, Value.str (Str.ofString "stream") 473] }
noncomputable def o84 : Obj := { cls := Value.type "tuple", data := Data.seq #[Value.str (Str.ofString "signs") 474] }
noncomputable def o86 : Obj := { cls := Value.type "code", data := Data.fields #[Value.str (Str.ofString "_law_lexer") 469, Value.str (Str.ofString "_law_lexer") 470, Value.str (Str.ofString "/claim/cut.py") 471, Value.int 104 0, Value.int 1 0, Value.int 0 0, Value.int 0 0, Value.int 3 0, Value.ref 81, Value.bool true, Value.int 181 0, Value.ref 82, Value.none, Value.ref 83, Value.ref 84, Value.ref 85, Value.int 475 0, Value.int 104 0, Value.str (Str.ofString "/claim/cut.py") 476] }
noncomputable def o87 : Obj := { cls := Value.type "function", data := Data.func { name := Str.ofString "_law_lexer", qualname := Str.ofString "_law_lexer", params := p87, body := FuncBody.stmts b87, scope := k87, globals := 3, closure := [], defaults := Value.none, kwdefaults := Value.none, pyModule := Value.str (Str.ofString "law_st0010_01") 461, code := Value.ref 86 } }
noncomputable def o88 : Obj := { cls := Value.type "tuple", data := Data.seq #[] }
noncomputable def o90 : Obj := { cls := Value.type "tuple", data := Data.seq #[Value.str (Str.ofString "code") 481, Value.str (Str.ofString "numbers") 482, Value.str (Str.ofString "last") 483, Value.str (Str.ofString "k") 484, Value.str (Str.ofString "gap") 485] }
noncomputable def o91 : Obj := { cls := Value.type "tuple", data := Data.seq #[] }
noncomputable def o93 : Obj := { cls := Value.type "code", data := Data.fields #[Value.str (Str.ofString "_law_line") 478, Value.str (Str.ofString "_law_line") 479, Value.str (Str.ofString "/claim/cut.py") 480, Value.int 109 0, Value.int 1 0, Value.int 0 0, Value.int 0 0, Value.int 3 0, Value.ref 88, Value.bool true, Value.int 181 0, Value.ref 89, Value.none, Value.ref 90, Value.ref 91, Value.ref 92, Value.int 486 0, Value.int 109 0, Value.str (Str.ofString "/claim/cut.py") 487] }
noncomputable def o94 : Obj := { cls := Value.type "function", data := Data.func { name := Str.ofString "_law_line", qualname := Str.ofString "_law_line", params := p94, body := FuncBody.stmts b94, scope := k94, globals := 3, closure := [], defaults := Value.none, kwdefaults := Value.none, pyModule := Value.str (Str.ofString "law_st0010_01") 461, code := Value.ref 93 } }
noncomputable def o95 : Obj := { cls := Value.type "tuple", data := Data.seq #[] }
noncomputable def o97 : Obj := { cls := Value.type "tuple", data := Data.seq #[Value.str (Str.ofString "numbers") 492, Value.str (Str.ofString "bits") 493, Value.str (Str.ofString "left") 494, Value.str (Str.ofString "ballot") 495, Value.str (Str.ofString "k") 496] }
noncomputable def o98 : Obj := { cls := Value.type "tuple", data := Data.seq #[] }
noncomputable def o100 : Obj := { cls := Value.type "code", data := Data.fields #[Value.str (Str.ofString "_law_ballot") 489, Value.str (Str.ofString "_law_ballot") 490, Value.str (Str.ofString "/claim/cut.py") 491, Value.int 117 0, Value.int 2 0, Value.int 0 0, Value.int 0 0, Value.int 3 0, Value.ref 95, Value.bool true, Value.int 181 0, Value.ref 96, Value.none, Value.ref 97, Value.ref 98, Value.ref 99, Value.int 497 0, Value.int 117 0, Value.str (Str.ofString "/claim/cut.py") 498] }
noncomputable def o101 : Obj := { cls := Value.type "function", data := Data.func { name := Str.ofString "_law_ballot", qualname := Str.ofString "_law_ballot", params := p101, body := FuncBody.stmts b101, scope := k101, globals := 3, closure := [], defaults := Value.none, kwdefaults := Value.none, pyModule := Value.str (Str.ofString "law_st0010_01") 461, code := Value.ref 100 } }
noncomputable def o102 : Obj := { cls := Value.type "tuple", data := Data.seq #[] }
noncomputable def o105 : Obj := { cls := Value.type "code", data := Data.fields #[Value.str (Str.ofString "_law_text") 500, Value.str (Str.ofString "_law_text") 501, Value.str (Str.ofString "/claim/cut.py") 502, Value.int 126 0, Value.int 3 0, Value.int 0 0, Value.int 0 0, Value.int 3 0, Value.ref 102, Value.bool true, Value.int 181 0, Value.ref 103, Value.none, Value.none, Value.none, Value.ref 104, Value.int 503 0, Value.int 126 0, Value.str (Str.ofString "/claim/cut.py") 504] }
noncomputable def o106 : Obj := { cls := Value.type "function", data := Data.func { name := Str.ofString "_law_text", qualname := Str.ofString "_law_text", params := p106, body := FuncBody.stmts b106, scope := k106, globals := 3, closure := [], defaults := Value.none, kwdefaults := Value.none, pyModule := Value.str (Str.ofString "law_st0010_01") 461, code := Value.ref 105 } }
noncomputable def o107 : Obj := { cls := Value.type "tuple", data := Data.seq #[] }
noncomputable def o109 : Obj := { cls := Value.type "tuple", data := Data.seq #[Value.str (Str.ofString "lexer") 509, Value.str (Str.ofString "lines") 510, Value.str (Str.ofString "k") 511, Value.str (Str.ofString "line") 512, Value.str (Str.ofString "word") 513] }
noncomputable def o110 : Obj := { cls := Value.type "tuple", data := Data.seq #[] }
noncomputable def o112 : Obj := { cls := Value.type "code", data := Data.fields #[Value.str (Str.ofString "_law_lines") 506, Value.str (Str.ofString "_law_lines") 507, Value.str (Str.ofString "/claim/cut.py") 508, Value.int 141 0, Value.int 1 0, Value.int 0 0, Value.int 0 0, Value.int 3 0, Value.ref 107, Value.bool true, Value.int 181 0, Value.ref 108, Value.none, Value.ref 109, Value.ref 110, Value.ref 111, Value.int 514 0, Value.int 141 0, Value.str (Str.ofString "/claim/cut.py") 515] }
noncomputable def o113 : Obj := { cls := Value.type "function", data := Data.func { name := Str.ofString "_law_lines", qualname := Str.ofString "_law_lines", params := p113, body := FuncBody.stmts b113, scope := k113, globals := 3, closure := [], defaults := Value.none, kwdefaults := Value.none, pyModule := Value.str (Str.ofString "law_st0010_01") 461, code := Value.ref 112 } }
noncomputable def o114 : Obj := { cls := Value.type "tuple", data := Data.seq #[] }
noncomputable def o117 : Obj := { cls := Value.type "code", data := Data.fields #[Value.str (Str.ofString "_law_middle") 517, Value.str (Str.ofString "_law_middle") 518, Value.str (Str.ofString "/claim/cut.py") 519, Value.int 151 0, Value.int 1 0, Value.int 0 0, Value.int 0 0, Value.int 3 0, Value.ref 114, Value.bool true, Value.int 181 0, Value.ref 115, Value.none, Value.none, Value.none, Value.ref 116, Value.int 520 0, Value.int 151 0, Value.str (Str.ofString "/claim/cut.py") 521] }
noncomputable def o118 : Obj := { cls := Value.type "function", data := Data.func { name := Str.ofString "_law_middle", qualname := Str.ofString "_law_middle", params := p118, body := FuncBody.stmts b118, scope := k118, globals := 3, closure := [], defaults := Value.none, kwdefaults := Value.none, pyModule := Value.str (Str.ofString "law_st0010_01") 461, code := Value.ref 117 } }
noncomputable def o119 : Obj := { cls := Value.type "tuple", data := Data.seq #[] }
noncomputable def o122 : Obj := { cls := Value.type "code", data := Data.fields #[Value.str (Str.ofString "law") 523, Value.str (Str.ofString "law") 524, Value.str (Str.ofString "/claim/cut.py") 525, Value.int 164 0, Value.int 1 0, Value.int 0 0, Value.int 0 0, Value.int 3 0, Value.ref 119, Value.bool true, Value.int 181 0, Value.ref 120, Value.none, Value.none, Value.none, Value.ref 121, Value.int 526 0, Value.int 164 0, Value.str (Str.ofString "/claim/cut.py") 527] }
noncomputable def o123 : Obj := { cls := Value.type "function", data := Data.func { name := Str.ofString "law", qualname := Str.ofString "law", params := p123, body := FuncBody.stmts b123, scope := k123, globals := 3, closure := [], defaults := Value.none, kwdefaults := Value.none, pyModule := Value.str (Str.ofString "law_st0010_01") 461, code := Value.ref 122 } }
noncomputable def kk0 (q : Params) : Frag := (nat_lit 2, o2) :: (nat_lit 3, o3 q) :: (nat_lit 6, o6) :: (nat_lit 15, o15) :: (nat_lit 17, o17) :: (nat_lit 18, o18) :: (nat_lit 20, o20) :: (nat_lit 21, o21) :: (nat_lit 29, o29) :: []
noncomputable def kk1 (q : Params) : Frag := (nat_lit 31, o31) :: (nat_lit 32, o32) :: (nat_lit 34, o34) :: (nat_lit 35, o35) :: (nat_lit 36, o36) :: (nat_lit 38, o38) :: (nat_lit 39, o39) :: (nat_lit 41, o41) :: (nat_lit 42, o42) :: []
noncomputable def kk2 (q : Params) : Frag := (nat_lit 43, o43) :: (nat_lit 45, o45) :: (nat_lit 46, o46) :: (nat_lit 48, o48) :: (nat_lit 49, o49) :: (nat_lit 50, o50) :: (nat_lit 52, o52) :: (nat_lit 53, o53) :: (nat_lit 55, o55) :: []
noncomputable def kk3 (q : Params) : Frag := (nat_lit 56, o56) :: (nat_lit 57, o57) :: (nat_lit 58, o58 q) :: (nat_lit 59, o59) :: (nat_lit 60, o60) :: (nat_lit 61, o61) :: (nat_lit 64, o64 q) :: (nat_lit 67, o67) :: (nat_lit 69, o69) :: []
noncomputable def kk4 (q : Params) : Frag := (nat_lit 70, o70) :: (nat_lit 72, o72) :: (nat_lit 73, o73) :: (nat_lit 74, o74) :: (nat_lit 76, o76) :: (nat_lit 77, o77) :: (nat_lit 79, o79) :: (nat_lit 80, o80) :: (nat_lit 81, o81) :: []
noncomputable def kk5 (q : Params) : Frag := (nat_lit 83, o83) :: (nat_lit 84, o84) :: (nat_lit 86, o86) :: (nat_lit 87, o87) :: (nat_lit 88, o88) :: (nat_lit 90, o90) :: (nat_lit 91, o91) :: (nat_lit 93, o93) :: (nat_lit 94, o94) :: []
noncomputable def kk6 (q : Params) : Frag := (nat_lit 95, o95) :: (nat_lit 97, o97) :: (nat_lit 98, o98) :: (nat_lit 100, o100) :: (nat_lit 101, o101) :: (nat_lit 102, o102) :: (nat_lit 105, o105) :: (nat_lit 106, o106) :: (nat_lit 107, o107) :: []
noncomputable def kk7 (q : Params) : Frag := (nat_lit 109, o109) :: (nat_lit 110, o110) :: (nat_lit 112, o112) :: (nat_lit 113, o113) :: (nat_lit 114, o114) :: (nat_lit 117, o117) :: (nat_lit 118, o118) :: (nat_lit 119, o119) :: (nat_lit 122, o122) :: []
noncomputable def kk8 (q : Params) : Frag := (nat_lit 123, o123) :: []
noncomputable def K (q : Params) : Frag := kk0 q ++ (kk1 q ++ (kk2 q ++ (kk3 q ++ (kk4 q ++ (kk5 q ++ (kk6 q ++ (kk7 q ++ (kk8 q))))))))
noncomputable def KL (q : Params) : Frag := by
  obtain h2 : o2 = ?x2 := by dsimp only [o2, List.cons_append, List.nil_append]; exact rfl
  obtain h3 : o3 q = ?x3 := by dsimp only [o3, de, e3x0, e3x1, e3x2, e3x3, e3x4, e3x5, List.cons_append, List.nil_append]; exact rfl
  obtain h6 : o6 = ?x6 := by dsimp only [o6, List.cons_append, List.nil_append]; exact rfl
  obtain h15 : o15 = ?x15 := by dsimp only [o15, List.cons_append, List.nil_append]; exact rfl
  obtain h17 : o17 = ?x17 := by dsimp only [o17, List.cons_append, List.nil_append]; exact rfl
  obtain h18 : o18 = ?x18 := by dsimp only [o18, List.cons_append, List.nil_append]; exact rfl
  obtain h20 : o20 = ?x20 := by dsimp only [o20, List.cons_append, List.nil_append]; exact rfl
  obtain h21 : o21 = ?x21 := by dsimp only [o21, p21, b21, k21, List.cons_append, List.nil_append]; exact rfl
  obtain h29 : o29 = ?x29 := by dsimp only [o29, List.cons_append, List.nil_append]; exact rfl
  obtain h31 : o31 = ?x31 := by dsimp only [o31, List.cons_append, List.nil_append]; exact rfl
  obtain h32 : o32 = ?x32 := by dsimp only [o32, List.cons_append, List.nil_append]; exact rfl
  obtain h34 : o34 = ?x34 := by dsimp only [o34, List.cons_append, List.nil_append]; exact rfl
  obtain h35 : o35 = ?x35 := by dsimp only [o35, p35, b35, k35, List.cons_append, List.nil_append]; exact rfl
  obtain h36 : o36 = ?x36 := by dsimp only [o36, List.cons_append, List.nil_append]; exact rfl
  obtain h38 : o38 = ?x38 := by dsimp only [o38, List.cons_append, List.nil_append]; exact rfl
  obtain h39 : o39 = ?x39 := by dsimp only [o39, List.cons_append, List.nil_append]; exact rfl
  obtain h41 : o41 = ?x41 := by dsimp only [o41, List.cons_append, List.nil_append]; exact rfl
  obtain h42 : o42 = ?x42 := by dsimp only [o42, p42, b42, k42, List.cons_append, List.nil_append]; exact rfl
  obtain h43 : o43 = ?x43 := by dsimp only [o43, List.cons_append, List.nil_append]; exact rfl
  obtain h45 : o45 = ?x45 := by dsimp only [o45, List.cons_append, List.nil_append]; exact rfl
  obtain h46 : o46 = ?x46 := by dsimp only [o46, List.cons_append, List.nil_append]; exact rfl
  obtain h48 : o48 = ?x48 := by dsimp only [o48, List.cons_append, List.nil_append]; exact rfl
  obtain h49 : o49 = ?x49 := by dsimp only [o49, p49, b49, k49, List.cons_append, List.nil_append]; exact rfl
  obtain h50 : o50 = ?x50 := by dsimp only [o50, List.cons_append, List.nil_append]; exact rfl
  obtain h52 : o52 = ?x52 := by dsimp only [o52, List.cons_append, List.nil_append]; exact rfl
  obtain h53 : o53 = ?x53 := by dsimp only [o53, List.cons_append, List.nil_append]; exact rfl
  obtain h55 : o55 = ?x55 := by dsimp only [o55, List.cons_append, List.nil_append]; exact rfl
  obtain h56 : o56 = ?x56 := by dsimp only [o56, p56, b56, k56, List.cons_append, List.nil_append]; exact rfl
  obtain h57 : o57 = ?x57 := by dsimp only [o57, List.cons_append, List.nil_append]; exact rfl
  obtain h58 : o58 q = ?x58 := by dsimp only [o58, de, e58x0, List.cons_append, List.nil_append]; exact rfl
  obtain h59 : o59 = ?x59 := by dsimp only [o59, List.cons_append, List.nil_append]; exact rfl
  obtain h60 : o60 = ?x60 := by dsimp only [o60, List.cons_append, List.nil_append]; exact rfl
  obtain h61 : o61 = ?x61 := by dsimp only [o61, List.cons_append, List.nil_append]; exact rfl
  obtain h64 : o64 q = ?x64 := by dsimp only [o64, de, e64x0, e64x1, e64x2, e64x3, List.cons_append, List.nil_append]; exact rfl
  obtain h67 : o67 = ?x67 := by dsimp only [o67, List.cons_append, List.nil_append]; exact rfl
  obtain h69 : o69 = ?x69 := by dsimp only [o69, List.cons_append, List.nil_append]; exact rfl
  obtain h70 : o70 = ?x70 := by dsimp only [o70, List.cons_append, List.nil_append]; exact rfl
  obtain h72 : o72 = ?x72 := by dsimp only [o72, List.cons_append, List.nil_append]; exact rfl
  obtain h73 : o73 = ?x73 := by dsimp only [o73, p73, b73, k73, List.cons_append, List.nil_append]; exact rfl
  obtain h74 : o74 = ?x74 := by dsimp only [o74, List.cons_append, List.nil_append]; exact rfl
  obtain h76 : o76 = ?x76 := by dsimp only [o76, List.cons_append, List.nil_append]; exact rfl
  obtain h77 : o77 = ?x77 := by dsimp only [o77, List.cons_append, List.nil_append]; exact rfl
  obtain h79 : o79 = ?x79 := by dsimp only [o79, List.cons_append, List.nil_append]; exact rfl
  obtain h80 : o80 = ?x80 := by dsimp only [o80, p80, b80, k80, List.cons_append, List.nil_append]; exact rfl
  obtain h81 : o81 = ?x81 := by dsimp only [o81, List.cons_append, List.nil_append]; exact rfl
  obtain h83 : o83 = ?x83 := by dsimp only [o83, List.cons_append, List.nil_append]; exact rfl
  obtain h84 : o84 = ?x84 := by dsimp only [o84, List.cons_append, List.nil_append]; exact rfl
  obtain h86 : o86 = ?x86 := by dsimp only [o86, List.cons_append, List.nil_append]; exact rfl
  obtain h87 : o87 = ?x87 := by dsimp only [o87, p87, b87, k87, List.cons_append, List.nil_append]; exact rfl
  obtain h88 : o88 = ?x88 := by dsimp only [o88, List.cons_append, List.nil_append]; exact rfl
  obtain h90 : o90 = ?x90 := by dsimp only [o90, List.cons_append, List.nil_append]; exact rfl
  obtain h91 : o91 = ?x91 := by dsimp only [o91, List.cons_append, List.nil_append]; exact rfl
  obtain h93 : o93 = ?x93 := by dsimp only [o93, List.cons_append, List.nil_append]; exact rfl
  obtain h94 : o94 = ?x94 := by dsimp only [o94, p94, b94, k94, List.cons_append, List.nil_append]; exact rfl
  obtain h95 : o95 = ?x95 := by dsimp only [o95, List.cons_append, List.nil_append]; exact rfl
  obtain h97 : o97 = ?x97 := by dsimp only [o97, List.cons_append, List.nil_append]; exact rfl
  obtain h98 : o98 = ?x98 := by dsimp only [o98, List.cons_append, List.nil_append]; exact rfl
  obtain h100 : o100 = ?x100 := by dsimp only [o100, List.cons_append, List.nil_append]; exact rfl
  obtain h101 : o101 = ?x101 := by dsimp only [o101, p101, b101, k101, List.cons_append, List.nil_append]; exact rfl
  obtain h102 : o102 = ?x102 := by dsimp only [o102, List.cons_append, List.nil_append]; exact rfl
  obtain h105 : o105 = ?x105 := by dsimp only [o105, List.cons_append, List.nil_append]; exact rfl
  obtain h106 : o106 = ?x106 := by dsimp only [o106, p106, b106, k106, List.cons_append, List.nil_append]; exact rfl
  obtain h107 : o107 = ?x107 := by dsimp only [o107, List.cons_append, List.nil_append]; exact rfl
  obtain h109 : o109 = ?x109 := by dsimp only [o109, List.cons_append, List.nil_append]; exact rfl
  obtain h110 : o110 = ?x110 := by dsimp only [o110, List.cons_append, List.nil_append]; exact rfl
  obtain h112 : o112 = ?x112 := by dsimp only [o112, List.cons_append, List.nil_append]; exact rfl
  obtain h113 : o113 = ?x113 := by dsimp only [o113, p113, b113, k113, List.cons_append, List.nil_append]; exact rfl
  obtain h114 : o114 = ?x114 := by dsimp only [o114, List.cons_append, List.nil_append]; exact rfl
  obtain h117 : o117 = ?x117 := by dsimp only [o117, List.cons_append, List.nil_append]; exact rfl
  obtain h118 : o118 = ?x118 := by dsimp only [o118, p118, b118, k118, List.cons_append, List.nil_append]; exact rfl
  obtain h119 : o119 = ?x119 := by dsimp only [o119, List.cons_append, List.nil_append]; exact rfl
  obtain h122 : o122 = ?x122 := by dsimp only [o122, List.cons_append, List.nil_append]; exact rfl
  obtain h123 : o123 = ?x123 := by dsimp only [o123, p123, b123, k123, List.cons_append, List.nil_append]; exact rfl
  exact (nat_lit 2, ?x2) :: (nat_lit 3, ?x3) :: (nat_lit 6, ?x6) :: (nat_lit 15, ?x15) :: (nat_lit 17, ?x17) :: (nat_lit 18, ?x18) :: (nat_lit 20, ?x20) :: (nat_lit 21, ?x21) :: (nat_lit 29, ?x29) :: (nat_lit 31, ?x31) :: (nat_lit 32, ?x32) :: (nat_lit 34, ?x34) :: (nat_lit 35, ?x35) :: (nat_lit 36, ?x36) :: (nat_lit 38, ?x38) :: (nat_lit 39, ?x39) :: (nat_lit 41, ?x41) :: (nat_lit 42, ?x42) :: (nat_lit 43, ?x43) :: (nat_lit 45, ?x45) :: (nat_lit 46, ?x46) :: (nat_lit 48, ?x48) :: (nat_lit 49, ?x49) :: (nat_lit 50, ?x50) :: (nat_lit 52, ?x52) :: (nat_lit 53, ?x53) :: (nat_lit 55, ?x55) :: (nat_lit 56, ?x56) :: (nat_lit 57, ?x57) :: (nat_lit 58, ?x58) :: (nat_lit 59, ?x59) :: (nat_lit 60, ?x60) :: (nat_lit 61, ?x61) :: (nat_lit 64, ?x64) :: (nat_lit 67, ?x67) :: (nat_lit 69, ?x69) :: (nat_lit 70, ?x70) :: (nat_lit 72, ?x72) :: (nat_lit 73, ?x73) :: (nat_lit 74, ?x74) :: (nat_lit 76, ?x76) :: (nat_lit 77, ?x77) :: (nat_lit 79, ?x79) :: (nat_lit 80, ?x80) :: (nat_lit 81, ?x81) :: (nat_lit 83, ?x83) :: (nat_lit 84, ?x84) :: (nat_lit 86, ?x86) :: (nat_lit 87, ?x87) :: (nat_lit 88, ?x88) :: (nat_lit 90, ?x90) :: (nat_lit 91, ?x91) :: (nat_lit 93, ?x93) :: (nat_lit 94, ?x94) :: (nat_lit 95, ?x95) :: (nat_lit 97, ?x97) :: (nat_lit 98, ?x98) :: (nat_lit 100, ?x100) :: (nat_lit 101, ?x101) :: (nat_lit 102, ?x102) :: (nat_lit 105, ?x105) :: (nat_lit 106, ?x106) :: (nat_lit 107, ?x107) :: (nat_lit 109, ?x109) :: (nat_lit 110, ?x110) :: (nat_lit 112, ?x112) :: (nat_lit 113, ?x113) :: (nat_lit 114, ?x114) :: (nat_lit 117, ?x117) :: (nat_lit 118, ?x118) :: (nat_lit 119, ?x119) :: (nat_lit 122, ?x122) :: (nat_lit 123, ?x123) :: []
end Mine
end
section
namespace Mine
-- Base
section
/-- what a call leaves alone: every object that it was not handed -/
noncomputable def Keeps (h h' : Heap) (own : List (Addr × Obj)) : Prop := ∀ b o, h.get? b = some o → (∀ p ∈ own, p.1 ≠ b) → h'.get? b = some o
theorem Keeps.refl (h : Heap) (own : List (Addr × Obj)) : Keeps h h own := fun _ _ e _ => e
theorem Keeps.trans {h h' h'' : Heap} {own own' : List (Addr × Obj)} (k : Keeps h h' own) (k' : Keeps h' h'' own') (e : own'.map (·.1) = own.map (·.1)) : Keeps h h'' own := fun b o q n =>
  k' b o (k b o q n) fun p hp => by
    have : p.1 ∈ own.map (·.1) := e ▸ List.mem_map_of_mem hp
    obtain ⟨q', hq, hq'⟩ := List.mem_map.mp this
    rw [← hq']; exact n q' hq
theorem News.sub {h₀ h : Heap} {L : Addr} {l l' : List (Addr × Obj)} (N : News h₀ L h l) (hs : ∀ p ∈ l', p ∈ l) : News h₀ L h l' := fun p hp => N p (hs p hp)
theorem News.app {h₀ h : Heap} {L : Addr} {l l' : List (Addr × Obj)} (N : News h₀ L h l) (N' : News h₀ L h l') : News h₀ L h (l ++ l') := fun p hp =>
  (List.mem_append.mp hp).elim (N p) (N' p)
/-- the rest of the ledger stands behind a call -/
theorem Keeps.rest {h₀ h h' : Heap} {L : Addr} {own rest : List (Addr × Obj)} (k : Keeps h h' own) (N : News h₀ L h rest) (d : ∀ q ∈ rest, ∀ p ∈ own, p.1 ≠ q.1) : News h₀ L h' rest := fun q hq =>
  ⟨k _ _ (N q hq).1 (d q hq), (N q hq).2⟩
section
variable {prog : Program} {w : World} {A₀ A : Around} {s : Shared} {base h₀ : Heap} {outer : List Env} {L : Addr} {m mg mb : Str → Option Value} {env : Env} {news : List (Addr × Obj)} {K : Frag} {p : Program} {loose : List Str} {mean : ExcName → Option Value}
  {R : Result → Shared → Prop} {name qual : Str} {params : Arguments} {body : List Stmt} {scope : Scope} {dV kV doc pm cdv ct oc : Value} {an od : Option Addr} {osl : Array (Option Value)} {f : Addr} {args : Args} {binds : List (Str × Value)} {cl : List (Str × Addr)}
theorem hide_off {h : Heap} {own : List (Addr × Obj)} {b : Addr} {o : Obj} (e : h.get? b = some o) (n : ∀ p ∈ own, p.1 ≠ b) : (hideAll h (own.map (·.1))).get? b = some o :=
  hideAll_get _ e fun q => by obtain ⟨p, hp, hq⟩ := List.mem_map.mp q; exact n p hp hq
theorem enter_fn {fo : Obj} (B : Below A₀ base outer h₀) (F : Fr h₀ L s.heap m) (X₀ : K.In h₀) (N : News h₀ L s.heap news) (T : Top p loose mean mg mb h₀) (hA : A.frames = some (env :: outer)) (hf : env.frame = some L) (hke : env.scope.kind = .function)
    (ho : s.heap.get? f = some fo) (hd : fo.data = .func (fnX name qual params body scope cl dV kV doc pm an cdv ct)) (hcd : s.heap.CodeRec cdv qual) (hroom : A.depth < recursionLimit)
    (hbind : BindsTo s (fnX name qual params body scope cl dV kV doc pm an cdv ct) args binds) (hloc : ∀ y ∈ binds, scope.names.lookup y.1 = some .local)
    (h : ∀ g L' h₁, Fr h₀ L g m → Fr g L' h₁ (fun y => binds.reverse.lookup y) → News g L' h₁ news → Below A base (env :: outer) g → K.In g → Top p loose mean mg mb g → Keeps s.heap g news → (∀ p ∈ news, p.1 < L') → s.heap.objs.size ≤ L' →
      wpAny (model prog w) (A.deeper (envX qual scope L' f cdv cl)) (execs body (envX qual scope L' f cdv cl))
        (fun fl s' => LeaveK h₀ L m g R (match fl with | .ret v => v | _ => .none) s')
        (fun e s' => wpAny (model prog w) (A.deeper (envX qual scope L' f cdv cl)) (leaving (envX qual scope L' f cdv cl) e) (fun _ s'' => R (.error e) s'') (fun e' s'' => R (.error e') s'') s')
        { s with heap := h₁, toks := s.toks + binds.length })
    (hco : scope.isCoroutine = false) (hgen : scope.isGenerator = false) (hk : scope.kind = .function)
    (hcell : ∀ x ∈ scope.names, x.2 ≠ .cell) : codeAny (model prog w) A (.call (.ref f) args) R s := by
  obtain ⟨FG, BG, st, lv⟩ := groundX (R := R) B F N hA hf hke
  refine codeAny_call_def (fd := fnX name qual params body scope cl dV kV doc pm an cdv ct) (body := body) (binds := binds) hroom ho hd (T.nolimit.keeps F.keep) hcd rfl hbind hcell hloc (fun h₁ hns hk₁ => ?_) hco hgen hk
  refine wpAny_mono (h _ s.heap.objs.size h₁ FG ⟨hns, fun b o e => hk₁ b o (of_hideAll _ e), Nat.le_of_eq (hideAll_size _ _)⟩
    (fun p hp => ⟨hk₁ _ _ (N p hp).1, Nat.ne_of_lt (Heap.lt_size (N p hp).1), hideAll_none _ (List.mem_map_of_mem hp)⟩) BG (X₀.keeps st) (T.keeps st) (fun b o e n => hide_off e n) (fun p hp => Heap.lt_size (N p hp).1) (Nat.le_refl _)) (fun fl s' hl => lv _ _ hl) fun _ _ y => y
theorem enter_K2 (B : Below A₀ base outer h₀) (F : Fr h₀ L s.heap m) (X₀ : K.In h₀) (N : News h₀ L s.heap news) (T : Top p loose mean mg mb h₀) (hA : A.frames = some (env :: outer)) (hf : env.frame = some L) (hke : env.scope.kind = .function)
    (ho : K.lookup f = some ⟨oc, od, .func (fnOf name qual params body scope dV kV doc pm an cdv ct), osl⟩) (hcd : codeIn K cdv qual = true) (hroom : A.depth < recursionLimit)
    (hbind : BindsTo s (fnOf name qual params body scope dV kV doc pm an cdv ct) args binds) (hloc : ∀ y ∈ binds, scope.names.lookup y.1 = some .local)
    (h : ∀ g L' h₁, Fr h₀ L g m → Fr g L' h₁ (fun y => binds.reverse.lookup y) → News g L' h₁ news → Below A base (env :: outer) g → K.In g → Top p loose mean mg mb g → Keeps s.heap g news → (∀ p ∈ news, p.1 < L') → s.heap.objs.size ≤ L' →
      wpAny (model prog w) (A.deeper (envOf qual scope L' f cdv)) (execs body (envOf qual scope L' f cdv))
        (fun fl s' => LeaveK h₀ L m g R (match fl with | .ret v => v | _ => .none) s')
        (fun e s' => wpAny (model prog w) (A.deeper (envOf qual scope L' f cdv)) (leaving (envOf qual scope L' f cdv) e) (fun _ s'' => R (.error e) s'') (fun e' s'' => R (.error e') s'') s')
        { s with heap := h₁, toks := s.toks + binds.length })
    (hco : scope.isCoroutine = false) (hgen : scope.isGenerator = false) (hk : scope.kind = .function)
    (hcell : ∀ x ∈ scope.names, x.2 ≠ .cell) : codeAny (model prog w) A (.call (.ref f) args) R s :=
  enter_fn (cl := []) B F X₀ N T hA hf hke ((X₀.keeps F.keep) _ _ ho) rfl (codeRec_of (X₀.keeps F.keep) hcd) hroom hbind hloc h hco hgen hk hcell
theorem enter_K (B : Below A₀ base outer h₀) (F : Fr h₀ L s.heap m) (X₀ : K.In h₀) (N : News h₀ L s.heap news) (T : Top p loose mean mg mb h₀) (hA : A.frames = some (env :: outer)) (hf : env.frame = some L) (hke : env.scope.kind = .function)
    (ho : K.lookup f = some ⟨oc, od, .func (fnOf name qual params body scope dV kV doc pm an cdv ct), osl⟩) (hcd : codeIn K cdv qual = true) (hroom : A.depth < recursionLimit)
    (hbind : BindsTo s (fnOf name qual params body scope dV kV doc pm an cdv ct) args binds) (hloc : ∀ y ∈ binds, scope.names.lookup y.1 = some .local)
    (h : ∀ g L' h₁, Fr h₀ L g m → Fr g L' h₁ (fun y => binds.reverse.lookup y) → News g L' h₁ news → Below A base (env :: outer) g → K.In g → Top p loose mean mg mb g → Keeps s.heap g news → (∀ p ∈ news, p.1 < L') →
      wpAny (model prog w) (A.deeper (envOf qual scope L' f cdv)) (execs body (envOf qual scope L' f cdv))
        (fun fl s' => LeaveK h₀ L m g R (match fl with | .ret v => v | _ => .none) s')
        (fun e s' => wpAny (model prog w) (A.deeper (envOf qual scope L' f cdv)) (leaving (envOf qual scope L' f cdv) e) (fun _ s'' => R (.error e) s'') (fun e' s'' => R (.error e') s'') s')
        { s with heap := h₁, toks := s.toks + binds.length })
    (hco : scope.isCoroutine = false) (hgen : scope.isGenerator = false) (hk : scope.kind = .function)
    (hcell : ∀ x ∈ scope.names, x.2 ≠ .cell) : codeAny (model prog w) A (.call (.ref f) args) R s :=
  enter_K2 B F X₀ N T hA hf hke ho hcd hroom hbind hloc (fun g L' h₁ a b c d e f k l _ => h g L' h₁ a b c d e f k l) hco hgen hk hcell
theorem enter_KC2 (B : Below A₀ base outer h₀) (F : Fr h₀ L s.heap m) (X₀ : K.In h₀) (N : News h₀ L s.heap news) (T : Top p loose mean mg mb h₀) (hA : A.frames = some (env :: outer)) (hf : env.frame = some L) (hke : env.scope.kind = .function)
    (ho : K.lookup f = some ⟨oc, od, .func (fnOf name qual params body scope dV kV doc pm an cdv ct), osl⟩) (hcd : codeIn K cdv qual = true) (hroom : A.depth < recursionLimit)
    (hbind : BindsTo s (fnOf name qual params body scope dV kV doc pm an cdv ct) args binds) (hkind : (binds.all fun y => scope.names.lookup y.1 == some .local || scope.names.lookup y.1 == some .cell) = true)
    (hnd : ((cellsFrom 0 scope.names []).map (·.1)).Nodup)
    (h : ∀ g L' h₁ tk cells, Fr h₀ L g m → Fr g L' h₁ (bindL (envOfC qual scope L' f cdv).kindOf binds fun _ => none) → News g L' h₁ (cells ++ news) →
      CellsAre (bindC (envOfC qual scope L' f cdv).kindOf binds fun _ => none) (cellsFrom (L' + 1) scope.names []) cells → Below A base (env :: outer) g → K.In g → Top p loose mean mg mb g → Keeps s.heap g news → (∀ p ∈ news, p.1 < L') → s.heap.objs.size ≤ L' →
      wpAny (model prog w) (A.deeper (envOfC qual scope L' f cdv)) (execs body (envOfC qual scope L' f cdv))
        (fun fl s' => LeaveK h₀ L m g R (match fl with | .ret v => v | _ => .none) s')
        (fun e s' => wpAny (model prog w) (A.deeper (envOfC qual scope L' f cdv)) (leaving (envOfC qual scope L' f cdv) e) (fun _ s'' => R (.error e) s'') (fun e' s'' => R (.error e') s'') s')
        { s with heap := h₁, toks := tk })
    (hco : scope.isCoroutine = false) (hgen : scope.isGenerator = false) (hk : scope.kind = .function) : codeAny (model prog w) A (.call (.ref f) args) R s := by
  obtain ⟨FG, BG, st, lv⟩ := groundX (R := R) B F N hA hf hke
  refine codeAny_call_function hroom ((X₀.keeps F.keep) _ _ ho) rfl hco hgen rfl (codeRec_of (X₀.keeps F.keep) hcd) (hbind _ _ _ _ ?_)
  refine wpAny_newFunctionEnv_cells hk (kindsX hkind _) fun env' he s' x => ?_
  subst he
  refine ⟨(T.nolimit.keeps F.keep).keeps x.toInCall.keep, codeAny_func ?_⟩
  obtain ⟨h₁, tk, rfl, _⟩ := x.done
  have hk₁ := x.toInCall.keep
  obtain ⟨cells, NC, Y⟩ := Cl.news (h₀ := s.heap) (Nat.le_refl _) fun n c hm => ⟨x.cell n c (lookup_of_mem_nodup (cellsFrom_names scope.names 0 (s.heap.objs.size + 1) [] [] rfl ▸ hnd) hm), x.above n c hm⟩
  refine wpAny_mono (h _ s.heap.objs.size h₁ tk cells FG ⟨x.toInCall.ns, fun b o e => hk₁ b o (of_hideAll _ e), Nat.le_of_eq (hideAll_size _ _)⟩ (fun p hp => ?_) Y BG (X₀.keeps st) (T.keeps st) (fun b o e n => hide_off e n) (fun p hp => Heap.lt_size (N p hp).1) (Nat.le_refl _)) (fun fl s' hl => lv _ _ hl) fun _ _ y => y
  rcases List.mem_append.mp hp with hp | hp
  · refine ⟨(NC p hp).1, (NC p hp).2.1, ?_⟩
    cases q : (hideAll s.heap (news.map (·.1))).get? p.1 with
    | none => rfl
    | some o => have := of_hideAll _ q; rw [(NC p hp).2.2] at this; cases this
  · exact ⟨hk₁ _ _ (N p hp).1, Nat.ne_of_lt (Heap.lt_size (N p hp).1), hideAll_none _ (List.mem_map_of_mem hp)⟩
theorem leave_K {g : Heap} {L' : Addr} {m' : Str → Option Value} {own news' : List (Addr × Obj)} {s' : Shared} {v : Value} {h1 : Heap} (F' : Fr g L' s'.heap m') (N' : News g L' s'.heap news') (k : Keeps h1 g own)
    (r : Fr h₀ L s'.heap m → News h₀ L s'.heap news' → Keeps h1 s'.heap own → R (.ok (.ret v)) s') : LeaveK h₀ L m g R v s' :=
  leaveK_ F' N' fun a b => r a b fun b o e n => F'.keep b o (k b o e n)
end
section
variable {prog : Program} {w : World} {A : Around} {E : Value → Shared → Prop} {s : Shared} {h₀ : Heap} {L : Addr} {m : Str → Option Value} {news : List (Addr × Obj)}
theorem newList_K2 {vs : List Value} {Q : Value → Shared → Prop} (F : Fr h₀ L s.heap m) (N : News h₀ L s.heap news)
    (h : ∀ l h', Fr h₀ L h' m → News h₀ L h' ((l, listOf vs.toArray 0) :: news) → (∀ p ∈ news, p.1 < l) → @LT.lt Nat _ L l → Q (.ref l) { s with heap := h' }) (hsz : vs.length ≤ sizeLine) : wpAny (model prog w) A (newList vs) Q E s :=
  newList_N F N (fun h' F' N' => h _ h' F' N' (fun p hp => Heap.lt_size (N p hp).1) F.ns.lt) hsz
theorem divmod_K {a b : Int} {t u : Tok} {Q : Value → Shared → Prop} (F : Fr h₀ L s.heap m) (N : News h₀ L s.heap news) (hb : b ≠ 0)
    (h : ∀ D h' t1 t2, Fr h₀ L h' m → News h₀ L h' ((D, { cls := .type "tuple", data := .seq #[.int (a.fdiv b) t1, .int (a.fmod b) t2] }) :: news) → (∀ p ∈ news, p.1 < D) →
      Q (.ref D) { s with toks := s.toks + 1 + 1, heap := h' })
    (hp : Builtin.divisionGoesByPylong a b = false ∨ PySem.PylongRoom (model prog w) A s) :
    wpAny (model prog w) A (call (.builtin "divmod") [.int a t, .int b u]) Q E s :=
  divmod_N F N hb (fun h' F' N' => h _ h' _ _ F' N' fun p hp => Heap.lt_size (N p hp).1) hp
end
section
variable {α : Type} {M : Model} {A A' : Around} {E : Value → Shared → Prop} {s : Shared} {Q : α → Shared → Prop}
theorem wpAny_le {t : Sem α} (h : wpAny M A' t Q E s) (h1 : A.handled = A'.handled := by rfl) (h2 : A.depth ≤ A'.depth := by exact Nat.le_of_ble_eq_true rfl) (h3 : A.frames = A'.frames := by rfl) (h4 : A.guards = A'.guards := by rfl) (h5 : A.units ≤ A'.units := by exact Nat.le_of_ble_eq_true rfl) : wpAny M A t Q E s :=
  fun Γ p hΓ => h Γ p ⟨h1 ▸ hΓ.1, Nat.le_trans hΓ.2.1 h2, h3 ▸ hΓ.2.2.1, h4 ▸ hΓ.2.2.2.1, Nat.le_trans hΓ.2.2.2.2 h5⟩
theorem codeAny_le {c : Code} {R : Result → Shared → Prop} (h : codeAny M A' c R s) (h1 : A.handled = A'.handled := by rfl) (h2 : A.depth ≤ A'.depth := by exact Nat.le_of_ble_eq_true rfl) (h3 : A.frames = A'.frames := by rfl) (h4 : A.guards = A'.guards := by rfl) (h5 : A.units ≤ A'.units := by exact Nat.le_of_ble_eq_true rfl) : codeAny M A c R s :=
  fun Γ p hc hΓ => h Γ p hc ⟨h1 ▸ hΓ.1, Nat.le_trans hΓ.2.1 h2, h3 ▸ hΓ.2.2.1, h4 ▸ hΓ.2.2.2.1, Nat.le_trans hΓ.2.2.2.2 h5⟩
end
/-- the lexer's dict, the stream's dict, the stream's reader -/
noncomputable abbrev lexE (w : World) (k1 k2 k3 k4 k5 : Tok) (no : Int) (tno : Tok) (st pb : Addr) : Obj := dictOf [{ hash := PyData.keyHash w.params (Str.ofString "lineno"), key := Value.str (Str.ofString "lineno") k1, val := Value.int no tno }, { hash := PyData.keyHash w.params (Str.ofString "instream"), key := Value.str (Str.ofString "instream") k2, val := Value.ref st }, { hash := PyData.keyHash w.params (Str.ofString "whitespace"), key := Value.str (Str.ofString "whitespace") k3, val := Value.str (Str.ofString "\n\t\x0d ") k4 }, { hash := PyData.keyHash w.params (Str.ofString "pushback"), key := Value.str (Str.ofString "pushback") k5, val := Value.ref pb }] 4
noncomputable abbrev strE (w : World) (j1 j2 j3 j4 j5 j6 j7 : Tok) (pb2 fn : Addr) : Obj := dictOf [{ hash := PyData.keyHash w.params (Str.ofString "lineno"), key := Value.str (Str.ofString "lineno") j1, val := Value.int 1 j2 }, { hash := PyData.keyHash w.params (Str.ofString "instream"), key := Value.str (Str.ofString "instream") j3, val := Value.none }, { hash := PyData.keyHash w.params (Str.ofString "whitespace"), key := Value.str (Str.ofString "whitespace") j4, val := Value.str (Str.ofString "\n\t\x0d ") j5 }, { hash := PyData.keyHash w.params (Str.ofString "pushback"), key := Value.str (Str.ofString "pushback") j6, val := Value.ref pb2 }, { hash := PyData.keyHash w.params (Str.ofString "read"), key := Value.str (Str.ofString "read") j7, val := Value.ref fn }] 5
noncomputable abbrev lamE (qual : Str) (lamP : Arguments) (lamB : Expr) (lamS : Scope) (ce : Addr) (pm : Value) (cc : Addr) (ctv : Value) : Obj := kla_obj (Str.ofString "<lambda>") qual lamP lamB lamS [(Str.ofString "signs", ce)] pm cc ctv
end
-- K1
section
/-! loops by an invariant over the turn's number, the frame's map and the ledger (its addresses stay) -/
section
variable {prog : Program} {w : World} {A : Around} {E : Value → Shared → Prop} {s : Shared} {env : Env} {h₀ : Heap} {Q : Flow → Shared → Prop} {m₀ : Str → Option Value} {news₀ : List (Addr × Obj)}
theorem same_addr {news news' : List (Addr × Obj)} (e : news'.map Prod.fst = news.map Prod.fst) {q : Addr × Obj} (hq : q ∈ news') : ∃ p ∈ news, p.1 = q.1 := by
  have h : q.1 ∈ news.map Prod.fst := by rw [← e]; exact List.mem_map_of_mem hq
  obtain ⟨p, hp, e'⟩ := List.mem_map.mp h
  exact ⟨p, hp, e'⟩
theorem off_new (N : News h₀ env.locals s.heap news₀) {news' : List (Addr × Obj)} (e : news'.map Prod.fst = news₀.map Prod.fst) : ∀ q ∈ news', q.1 ∉ [s.heap.objs.size] := fun q hq hI => by
  obtain ⟨p, hp, e'⟩ := same_addr e hq
  have := Heap.lt_size (N p hp).1
  rw [e', List.mem_singleton.mp hI] at this
  exact Nat.lt_irrefl _ this
theorem for_list {x : Str} {body : List Stmt} {al : Addr} {vs : List Value} {n : Nat} (hh : A.handled = none) (F : Fr h₀ env.locals s.heap m₀) (N : News h₀ env.locals s.heap news₀) (hm : (al, listOf vs.toArray n) ∈ news₀)
    (J : Nat → (Str → Option Value) → List (Addr × Obj) → Prop) (h0 : J 0 m₀ news₀)
    (step : ∀ i v m₁ news₁ h tk own Q', vs[i]? = some v → J i m₁ news₁ → (∀ q ∈ own, q.1 = s.heap.objs.size ∨ q.1 = al) →
      Fr h₀ env.locals h (fun y => if y = x then some v else m₁ y) → News h₀ env.locals h (own ++ news₁) →
      (∀ h' tk' m₂ news₂, Fr h₀ env.locals h' m₂ → News h₀ env.locals h' (own ++ news₂) → news₂.map Prod.fst = news₁.map Prod.fst → J (i + 1) m₂ news₂ → Q' .next { s with heap := h', toks := tk' }) →
      wpAny (model prog w) A (execs body env) Q' E { s with heap := h, toks := tk })
    (done : ∀ h' tk m' news', Fr h₀ env.locals h' m' → News h₀ env.locals h' news' → J vs.length m' news' → Q .next { s with heap := h', toks := tk }) :
    wpAny (model prog w) A (pyIter (.ref al)) (fun it s₂ => LoopAtV prog w A h₀ env x body Q E it s₂) E s := by
  have hz := N _ hm
  have hls : s.heap.IsList al vs.toArray := ⟨_, hz.1, rfl, n, rfl⟩
  have hne : al ≠ s.heap.objs.size := Nat.ne_of_lt (Heap.lt_size hz.1)
  refine wpAny_pyIter_list hls ?_
  refine ⟨_, _, _, vs.toArray.size, _, _, m₀, news₀, (fun i m nw => nw.map Prod.fst = news₀.map Prod.fst ∧ J i m nw), rfl, Walks.list hh s.heap.objs.size al hne vs.toArray, ?_, ?_, off_new N rfl, ⟨⟨_, Heap.get?_push_size _ rfl, rfl, rfl⟩, hls.at fun o e => Heap.get?_push_of_some _ e⟩, F.push _, (fun q hq => ⟨Heap.get?_push_of_some _ (N q hq).1, (N q hq).2⟩), ⟨rfl, h0⟩, ?_, ?_⟩
  · intro hm
    rcases List.mem_cons.mp hm with e | hm
    · exact absurd F.ns.lt (e ▸ Nat.lt_irrefl _)
    · exact hz.2.1 (List.mem_singleton.mp hm).symm
  · intro b hb
    rw [List.mem_singleton.mp hb]
    exact next_is_new F
  · rintro i v m₁ news₁ s₁ own ⟨hh', tk', rfl⟩ hi hP ⟨he, hJ⟩ hoff hsub hget hall hst F₁ N₁
    refine step i v m₁ news₁ hh' tk' own _ (by simpa using hP) hJ (fun q hq => by simpa using hsub q hq) F₁ N₁ fun h' tk2 m₂ news₂ F₂ N₂ e₂ J₂ => ?_
    exact ⟨rfl, h', tk2, m₂, news₂, rfl, F₂, N₂, off_new N (e₂.trans he), e₂.trans he, J₂⟩
  · rintro h' tk m' news' F' N' _ ⟨_, hJ⟩
    exact done h' tk m' news' F' N' (by simpa using hJ)
theorem for_range {x : Str} {body : List Stmt} {rA : Addr} {n : Nat} {z : Int} {t1 t2 t3 : Tok} (hh : A.handled = none) (F : Fr h₀ env.locals s.heap m₀) (N : News h₀ env.locals s.heap news₀) (hr : IsRange s.heap rA 0 z 1 t1 t2 t3) (hsm : Builtin.Range.small 0 z 1 = true) (hn : Builtin.Range.rangeSize 0 z 1 = ((n : Nat) : Int))
    (J : Nat → (Str → Option Value) → List (Addr × Obj) → Prop) (h0 : J 0 m₀ news₀)
    (step : ∀ i t m₁ news₁ h tk own Q', i < n → J i m₁ news₁ → (∀ q ∈ own, q.1 = s.heap.objs.size) → (∃ o, (s.heap.objs.size, o) ∈ own) →
      Fr h₀ env.locals h (fun y => if y = x then some (.int (0 + (i : Int)) t) else m₁ y) → News h₀ env.locals h (own ++ news₁) →
      (∀ h' tk' m₂ news₂, Fr h₀ env.locals h' m₂ → News h₀ env.locals h' (own ++ news₂) → (∀ q ∈ news₂, q.1 ≠ s.heap.objs.size) → J (i + 1) m₂ news₂ → Q' .next { s with heap := h', toks := tk' }) →
      wpAny (model prog w) A (execs body env) Q' E { s with heap := h, toks := tk })
    (done : ∀ h' tk m' news', Fr h₀ env.locals h' m' → News h₀ env.locals h' news' → J n m' news' → Q .next { s with heap := h', toks := tk }) :
    wpAny (model prog w) A (pyIter (.ref rA)) (fun it s₂ => LoopAtV prog w A h₀ env x body Q E it s₂) E s := by
  refine wpAny_pyIter_range hr hsm ?_
  refine ⟨_, _, _, n, _, _, m₀, news₀, J, rfl, LCg.range_walks hh 0 n, ?_, ?_, off_new N rfl, (by rw [hn]; show IsRangeIter _ _ _ _ _; simpa using Heap.get?_push_size _ rfl), F.push _, (fun q hq => ⟨Heap.get?_push_of_some _ (N q hq).1, (N q hq).2⟩), h0, ?_, ?_⟩
  · intro hm
    exact absurd F.ns.lt ((List.mem_singleton.mp hm) ▸ Nat.lt_irrefl _)
  · intro b hb
    rw [List.mem_singleton.mp hb]
    exact next_is_new F
  · rintro i v m₁ news₁ s₁ own ⟨hh', tk', rfl⟩ hi ⟨t, rfl⟩ hJ hoff hsub hget hall hst F₁ N₁
    refine step i t m₁ news₁ hh' tk' own _ hi hJ (fun q hq => List.mem_singleton.mp (hsub q hq)) ⟨_, hall _ (.head _) (next_is_new F) _ hst⟩ F₁ N₁ fun h' tk2 m₂ news₂ F₂ N₂ e₂ J₂ => ?_
    exact ⟨rfl, h', tk2, m₂, news₂, rfl, F₂, N₂, (fun q hq hI => e₂ q hq (List.mem_singleton.mp hI)), J₂⟩
  · rintro h' tk m' news' F' N' _ hJ
    exact done h' tk m' news' F' N' hJ
theorem for_range_c {x : Str} {px : Pos} {body : List Stmt} {rA : Addr} {n : Nat} {z : Int} {t1 t2 t3 : Tok} (hh : A.handled = none) (F : Fr h₀ env.locals s.heap m₀) (N : News h₀ env.locals s.heap news₀) (hr : IsRange s.heap rA 0 z 1 t1 t2 t3) (hsm : Builtin.Range.small 0 z 1 = true) (hn : Builtin.Range.rangeSize 0 z 1 = ((n : Nat) : Int))
    (J : Nat → (Str → Option Value) → List (Addr × Obj) → Prop) (h0 : J 0 m₀ news₀)
    (step : ∀ i t m₁ news₁ h tk own Q', i < n → J i m₁ news₁ → (∀ q ∈ own, q.1 = s.heap.objs.size) →
      Fr h₀ env.locals h m₁ → News h₀ env.locals h (own ++ news₁) →
      (∀ h' tk' m₂ news₂, Fr h₀ env.locals h' m₂ → News h₀ env.locals h' (own ++ news₂) → news₂.map Prod.fst = news₁.map Prod.fst → J (i + 1) m₂ news₂ → Q' .next { s with heap := h', toks := tk' }) →
      wpAny (model prog w) A (assign (.Name x px) env (.int (0 + (i : Int)) t)) (fun _ s₂ => wpAny (model prog w) A (execs body env) Q' E s₂) E { s with heap := h, toks := tk })
    (done : ∀ h' tk m' news', Fr h₀ env.locals h' m' → News h₀ env.locals h' news' → J n m' news' → Q .next { s with heap := h', toks := tk }) :
    wpAny (model prog w) A (pyIter (.ref rA)) (fun it s₂ => TurnsAt prog w A h₀ env (.Name x px) body Q E it s₂) E s := by
  refine wpAny_pyIter_range hr hsm ?_
  refine ⟨_, _, _, n, _, _, _, m₀, news₀, (fun i m nw => nw.map Prod.fst = news₀.map Prod.fst ∧ J i m nw), rfl, KTurns.ofWalks (LCg.range_walks hh 0 n) (fun i v s Q E st q => wpAny_pure q), ?_, ?_, off_new N rfl, (by rw [hn]; show IsRangeIter _ _ _ _ _; simpa using Heap.get?_push_size _ rfl), F.push _, (fun q hq => ⟨Heap.get?_push_of_some _ (N q hq).1, (N q hq).2⟩), ⟨rfl, h0⟩, ?_, ?_⟩
  · intro hm
    exact absurd F.ns.lt ((List.mem_singleton.mp hm) ▸ Nat.lt_irrefl _)
  · intro b hb
    rw [List.mem_singleton.mp hb]
    exact next_is_new F
  · rintro i v m₁ news₁ hh' tk' own hi ⟨t, rfl⟩ ⟨he, hJ⟩ hoff hsub hget hall hst F₁ N₁
    refine step i t m₁ news₁ hh' tk' own _ hi hJ (fun q hq => List.mem_singleton.mp (hsub q hq)) F₁ N₁ fun h' tk2 m₂ news₂ F₂ N₂ e₂ J₂ => ?_
    exact ⟨rfl, h', tk2, m₂, news₂, rfl, F₂, N₂, off_new N (e₂.trans he), e₂.trans he, J₂⟩
  · rintro h' tk m' news' F' N' _ ⟨_, hJ⟩
    exact done h' tk m' news' F' N' hJ
theorem for_list_c {x : Str} {px : Pos} {body : List Stmt} {al : Addr} {vs : List Value} {n : Nat} (hh : A.handled = none) (F : Fr h₀ env.locals s.heap m₀) (N : News h₀ env.locals s.heap news₀) (hm : (al, listOf vs.toArray n) ∈ news₀)
    (J : Nat → (Str → Option Value) → List (Addr × Obj) → Prop) (h0 : J 0 m₀ news₀)
    (step : ∀ i v m₁ news₁ h tk own Q', vs[i]? = some v → J i m₁ news₁ → (∀ q ∈ own, q.1 = s.heap.objs.size ∨ q.1 = al) →
      Fr h₀ env.locals h m₁ → News h₀ env.locals h (own ++ news₁) →
      (∀ h' tk' m₂ news₂, Fr h₀ env.locals h' m₂ → News h₀ env.locals h' (own ++ news₂) → news₂.map Prod.fst = news₁.map Prod.fst → J (i + 1) m₂ news₂ → Q' .next { s with heap := h', toks := tk' }) →
      wpAny (model prog w) A (assign (.Name x px) env v) (fun _ s₂ => wpAny (model prog w) A (execs body env) Q' E s₂) E { s with heap := h, toks := tk })
    (done : ∀ h' tk m' news', Fr h₀ env.locals h' m' → News h₀ env.locals h' news' → J vs.length m' news' → Q .next { s with heap := h', toks := tk }) :
    wpAny (model prog w) A (pyIter (.ref al)) (fun it s₂ => TurnsAt prog w A h₀ env (.Name x px) body Q E it s₂) E s := by
  have hz := N _ hm
  have hls : s.heap.IsList al vs.toArray := ⟨_, hz.1, rfl, n, rfl⟩
  have hne : al ≠ s.heap.objs.size := Nat.ne_of_lt (Heap.lt_size hz.1)
  refine wpAny_pyIter_list hls ?_
  refine ⟨_, _, _, vs.toArray.size, _, _, _, m₀, news₀, (fun i m nw => nw.map Prod.fst = news₀.map Prod.fst ∧ J i m nw), rfl, KTurns.ofWalks (Walks.list hh s.heap.objs.size al hne vs.toArray) (fun i v s Q E st q => wpAny_pure q), ?_, ?_, off_new N rfl, ⟨⟨_, Heap.get?_push_size _ rfl, rfl, rfl⟩, hls.at fun o e => Heap.get?_push_of_some _ e⟩, F.push _, (fun q hq => ⟨Heap.get?_push_of_some _ (N q hq).1, (N q hq).2⟩), ⟨rfl, h0⟩, ?_, ?_⟩
  · intro hm
    rcases List.mem_cons.mp hm with e | hm
    · exact absurd F.ns.lt (e ▸ Nat.lt_irrefl _)
    · exact hz.2.1 (List.mem_singleton.mp hm).symm
  · intro b hb
    rw [List.mem_singleton.mp hb]
    exact next_is_new F
  · rintro i v m₁ news₁ hh' tk' own hi hP ⟨he, hJ⟩ hoff hsub hget hall hst F₁ N₁
    refine step i v m₁ news₁ hh' tk' own _ (by simpa using hP) hJ (fun q hq => by simpa using hsub q hq) F₁ N₁ fun h' tk2 m₂ news₂ F₂ N₂ e₂ J₂ => ?_
    exact ⟨rfl, h', tk2, m₂, news₂, rfl, F₂, N₂, off_new N (e₂.trans he), e₂.trans he, J₂⟩
  · rintro h' tk m' news' F' N' _ ⟨_, hJ⟩
    exact done h' tk m' news' F' N' (by simpa using hJ)
end
section
variable {M : Model} {A : Around} {E : Value → Shared → Prop} {s : Shared} {h₀ : Heap} {L a : Addr} {m : Str → Option Value} {cn : Str} {cs : Scope} {ccd : Value} {cl : List (Str × Addr)} {x : Str} {v : Value}
theorem loadX_Lm {Q : Value → Shared → Prop} (F : Fr h₀ L s.heap m) (hv : m x = some v) (h : Q v s) (hk : cs.kind = .function := by rfl) (hx : (envX cn cs L a ccd cl).kindOf x = some .local := by rfl) : wpAny M A (loadName (envX cn cs L a ccd cl) x) Q E s := wpAny_loadName_local hk hx F.ns hv h
end
end
-- T0
theorem mem_one {α : Type} {x : α} {l : List α} (h : x ∈ l) : ∀ p ∈ [x], p ∈ l := fun p hp => by rw [List.mem_singleton.mp hp]; exact h
theorem mem_cons' {α : Type} {x : α} {r l : List α} (h : x ∈ l) (h' : ∀ p ∈ r, p ∈ l) : ∀ p ∈ x :: r, p ∈ l := fun p hp => by
  rcases List.mem_cons.mp hp with rfl | hp
  · exact h
  · exact h' p hp
theorem mem_nil' {α : Type} {l : List α} : ∀ p ∈ ([] : List α), p ∈ l := fun _ hp => nomatch hp
-- T1
section
/-- the parts of the one lambda of the text -/
noncomputable def lamExpr : Option Expr := match (PySem.Challenge.pw_st0010_01.main.body.drop 58 : List Stmt) with
  | Stmt.FunctionDef _ _ (_ :: _ :: Stmt.Assign _ v _ :: _) _ _ _ _ _ _ _ :: _ => some v
  | _ => none
noncomputable def LamIs (P : Arguments) (B : Expr) (S : Scope) : Prop := ∃ pos, lamExpr = some (Expr.Lambda P B S pos)
/-- values that are the one-sign texts of these numbers -/
inductive Signs : List Value → List Nat → Prop
  | nil : Signs [] []
  | cons {v : Value} {vs : List Value} {c : Nat} {cs : List Nat} {t : Tok} : v = .str ⟨#[c]⟩ t → Signs vs cs → Signs (v :: vs) (c :: cs)
theorem Signs.length {vs : List Value} {cs : List Nat} (h : Signs vs cs) : vs.length = cs.length := by
  induction h with
  | nil => rfl
  | cons _ _ ih => simp [ih]
theorem Signs.append {vs vs' : List Value} {cs cs' : List Nat} (h : Signs vs cs) (h' : Signs vs' cs') : Signs (vs ++ vs') (cs ++ cs') := by
  induction h with
  | nil => exact h'
  | cons e _ ih => exact .cons e ih
theorem Signs.snoc {vs : List Value} {cs : List Nat} {c : Nat} : Signs vs (cs ++ [c]) → ∃ vs' t, vs = vs' ++ [Value.str ⟨#[c]⟩ t] ∧ Signs vs' cs := by
  intro h
  induction cs generalizing vs with
  | nil =>
    cases h with
    | cons e h' => cases h'; exact ⟨[], _, by rw [e]; rfl, .nil⟩
  | cons d cs ih =>
    cases h with
    | cons e h' =>
      obtain ⟨vs', t, rfl, h2⟩ := ih h'
      exact ⟨_ :: vs', t, rfl, .cons e h2⟩
theorem signs_of_get {vs : List Value} {cs : List Nat} (hl : vs.length = cs.length) (h : ∀ (j : Nat) (v : Value), vs[j]? = some v → ∃ c u, cs[j]? = some c ∧ v = Value.str ⟨#[c]⟩ u) : Signs vs cs := by
  induction vs generalizing cs with
  | nil => cases cs with
    | nil => exact .nil
    | cons => simp at hl
  | cons v vs ih => cases cs with
    | nil => simp at hl
    | cons c cs =>
      obtain ⟨c', u, hc, hv⟩ := h 0 v (by simp)
      have : c = c' := by simpa using hc
      subst this
      exact .cons hv (ih (by simpa using hl) fun j w hj => by simpa using h (j + 1) w (by simpa using hj))
section
variable {prog : Program} {w : World} {A : Around} {E : Value → Shared → Prop} {s : Shared} {h₀ : Heap} {L : Addr} {m : Str → Option Value} {news : List (Addr × Obj)} {Q : Value → Shared → Prop}
theorem listStr_K {x : Str} {t : Tok} (hh : A.handled = none) (F : Fr h₀ L s.heap m) (N : News h₀ L s.heap news) (hsz : x.length ≤ sizeLine)
    (h : ∀ l h' tk ys c, Fr h₀ L h' m → News h₀ L h' ((l, listOf ys c) :: news) → (∀ p ∈ news, p.1 < l) → Signs ys.toList x.cps.toList → Q (.ref l) { s with heap := h', toks := tk }) :
    wpAny (model prog w) A (call (.type "list") [.str x t]) Q E s := by
  refine call_list_str hh x t (hn := hsz) fun h' tk acc' c' hk hS' hacc => ?_
  refine h _ h' tk acc' c' (F.keeps hk) ?_ (fun p hp => Heap.lt_size (N p hp).1) (signs_of_get (by simp [hacc.1]) fun j v hv => ?_)
  · intro p hp
    rcases List.mem_cons.mp hp with rfl | hp
    · obtain ⟨oL, _, _, hL, _⟩ := F.ns
      refine ⟨hS', Nat.ne_of_gt (Heap.lt_size hL), ?_⟩
      cases e : h₀.get? s.heap.objs.size with
      | none => rfl
      | some o => exact absurd (Heap.lt_size (F.keep _ _ e)) (Nat.lt_irrefl _)
    · exact ⟨hk _ _ (N p hp).1, (N p hp).2⟩
  · obtain ⟨c, u, hc, rfl⟩ := hacc.2 j v (by simpa using hv)
    exact ⟨c, u, by simpa using hc, rfl⟩
end
section
variable {prog : Program} {w : World} {A : Around} {E : Value → Shared → Prop} {s : Shared} {h₀ : Heap} {L : Addr} {m : Str → Option Value} {news news' : List (Addr × Obj)} {l : Addr} {n : Nat}
theorem truthy_snoc {xs : List Value} {v : Value} {Q : Bool → Shared → Prop} (N : News h₀ L s.heap news) (hm : (l, listOf (xs ++ [v]).toArray n) ∈ news) (hz : xs.length ≤ 1000000)
    (h : Q true { s with toks := s.toks + 1 + 1 }) : wpAny (model prog w) A (truthy (.ref l)) Q E s :=
  wpAny_truthy_list (items := (xs ++ [v]).toArray) ⟨_, (N _ hm).1, rfl, n, rfl⟩ (by simp; omega) (by
    have e : (!(xs ++ [v]).toArray.isEmpty) = true := by cases xs <;> simp
    rw [e]; exact h)
theorem truthy_nil {Q : Bool → Shared → Prop} (N : News h₀ L s.heap news) (hm : (l, listOf #[] n) ∈ news)
    (h : Q false { s with toks := s.toks + 1 + 1 }) : wpAny (model prog w) A (truthy (.ref l)) Q E s :=
  wpAny_truthy_list (items := #[]) ⟨_, (N _ hm).1, rfl, n, rfl⟩ (by decide) h
theorem truthy_cons {xs : List Value} {v : Value} {Q : Bool → Shared → Prop} (N : News h₀ L s.heap news) (hm : (l, listOf (v :: xs).toArray n) ∈ news) (hz : xs.length ≤ 1000000)
    (h : Q true { s with toks := s.toks + 1 + 1 }) : wpAny (model prog w) A (truthy (.ref l)) Q E s :=
  wpAny_truthy_list (items := (v :: xs).toArray) ⟨_, (N _ hm).1, rfl, n, rfl⟩ (by simp; omega) (by simpa using h)
theorem pop_snoc {xs : List Value} {v : Value} {Q : Value → Shared → Prop} (F : Fr h₀ L s.heap m) (N : News h₀ L s.heap news) (U : Upd l (listOf (xs ++ [v]).toArray n) (listOf xs.toArray (n + 1)) news news') (hz : xs.length ≤ 1000000)
    (h : ∀ h', Fr h₀ L h' m → News h₀ L h' news' → Q v { s with heap := h' }) : wpAny (model prog w) A (call (.builtin "list.pop") [.ref l]) Q E s :=
  kl_pop F N (by simpa using kpa_last v xs) U (by rw [sizeLine_eq]; simp; omega) h
end
theorem fm_some {α β : Type} {f : α → Option β} {g : α → β} : ∀ {l : List α}, (∀ k ∈ l, f k = some (g k)) → l.filterMap f = l.map g
  | [], _ => rfl
  | x :: r, h => by
    rw [List.filterMap_cons, h x (List.mem_cons_self ..), List.map_cons]
    exact congrArg _ (fm_some fun k hk => h k (List.mem_cons_of_mem _ hk))
theorem rev_idx {α : Type} (l : List α) : ((List.range l.length).map fun k : Nat => (((l.length : Int) - 1) + -1 * (k : Int)).toNat).filterMap (fun i => l[i]?) = l.reverse := by
  cases l with
  | nil => rfl
  | cons a r =>
    rw [List.filterMap_map]
    rw [fm_some (g := fun k => ((a :: r)[(a :: r).length - 1 - k]?).getD a) fun k hk => ?_]
    · apply List.ext_getElem?
      intro i
      rw [List.getElem?_map]
      by_cases hi : i < (a :: r).length
      · rw [List.getElem?_range hi, List.getElem?_reverse hi]
        have h2 : (a :: r).length - 1 - i < (a :: r).length := by omega
        rw [Option.map_some, List.getElem?_eq_getElem h2]
        rfl
      · rw [List.getElem?_eq_none (by rw [List.length_range]; omega), List.getElem?_eq_none (by rw [List.length_reverse]; omega)]
        rfl
    · have h1 : k < (a :: r).length := List.mem_range.mp hk
      have h2 : (((((a :: r).length : Int) - 1) + -1 * (k : Int)).toNat) = (a :: r).length - 1 - k := by omega
      show (a :: r)[(((((a :: r).length : Int) - 1) + -1 * (k : Int)).toNat)]? = _
      rw [h2, List.getElem?_eq_getElem (by omega)]
      rfl
theorem sliceBy_rev (x : Str) (u : Tok) : Txt.sliceBy x none none (-1, u) = ⟨x.cps.toList.reverse.toArray⟩ := by
  unfold Txt.sliceBy
  have h1 : (((some ((-1 : Int), u)).map (·.1)).getD 1 == 1) = false := rfl
  rw [h1, Bool.false_and]
  simp only [Bool.false_eq_true, if_false]
  congr 2
  have e : slicePicked x none none (some (-1, u)) = (List.range x.cps.toList.length).map fun k : Nat => (((x.cps.toList.length : Int) - 1) + -1 * (k : Int)).toNat := by
    show PySem.Builtin.Str.strSliceIndices none none (-1) x.cps.size = _
    unfold PySem.Builtin.Str.strSliceIndices sliceRange
    simp only [Array.length_toList]
    have : ((if (-1 : Int) > 0 then (if (if (-1 : Int) > 0 then (0 : Int) else (x.cps.size : Int) - 1) < (if (-1 : Int) > 0 then (x.cps.size : Int) else -1) then ((if (-1 : Int) > 0 then (x.cps.size : Int) else -1) - (if (-1 : Int) > 0 then (0 : Int) else (x.cps.size : Int) - 1) + -1 - 1) / -1 else 0) else (if (if (-1 : Int) > 0 then (0 : Int) else (x.cps.size : Int) - 1) > (if (-1 : Int) > 0 then (x.cps.size : Int) else -1) then ((if (-1 : Int) > 0 then (0 : Int) else (x.cps.size : Int) - 1) - (if (-1 : Int) > 0 then (x.cps.size : Int) else -1) - -1 - 1) / (- -1) else 0)) : Int).toNat = x.cps.size := by
      simp
      split <;> omega
    rw [this]
    simp
  rw [e]
  simpa using rev_idx x.cps.toList
end
-- T2
section
theorem owner_ci : Manifest.owners.lookup (String.ofList ['r', 'o', 't', 'a', 'r', 'e', 't', 'i', '_', 'e', 'l', 'b', 'a', 'l', 'l', 'a', 'c'].reverse) = some Manifest.sig_callable_iterator := by kernel_rfl
theorem slot_ci_next : Slot "callable_iterator" "__next__" "callable_iterator.__next__" :=
  .of (owner := "callable_iterator") (n := "__next__") (by rw [typeLookup_type, builtinLookup_eq_fast]; kernel_rfl) (by decide +kernel) (by decide +kernel) (by decide +kernel)
    (by first | exact .inl (by decide +kernel) | exact .inr (by decide +kernel)) (by rw [isSubtype_type]; kernel_rfl)
theorem entry_ci_next : entryFor table "callable_iterator.__next__" = some Builtin.«callable_iterator.__next__» := entryFor_of_tree (by kernel_rfl)
theorem args_ci_next_1 (a : Value) : argsOk "callable_iterator.__next__" ⟨[a], []⟩ := by
  unfold argsOk; rw [signature?_of (id := "callable_iterator.__next__") (n := ['_', '_', 't', 'x', 'e', 'n', '_', '_']) (o := ['r', 'o', 't', 'a', 'r', 'e', 't', 'i', '_', 'e', 'l', 'b', 'a', 'l', 'l', 'a', 'c']) (by kernel_rfl) owner_ci]; kernel_rfl
theorem slot_ci_iter : Slot "callable_iterator" "__iter__" "callable_iterator.__iter__" :=
  .of (owner := "callable_iterator") (n := "__iter__") (by rw [typeLookup_type, builtinLookup_eq_fast]; kernel_rfl) (by decide +kernel) (by decide +kernel) (by decide +kernel)
    (by first | exact .inl (by decide +kernel) | exact .inr (by decide +kernel)) (by rw [isSubtype_type]; kernel_rfl)
theorem args_ci_iter_1 (a : Value) : argsOk "callable_iterator.__iter__" ⟨[a], []⟩ := by
  unfold argsOk; rw [signature?_of (id := "callable_iterator.__iter__") (n := ['_', '_', 'r', 'e', 't', 'i', '_', '_']) (o := ['r', 'o', 't', 'a', 'r', 'e', 't', 'i', '_', 'e', 'l', 'b', 'a', 'l', 'l', 'a', 'c']) (by kernel_rfl) owner_ci]; kernel_rfl
theorem entry_ci_iter : entryFor table "callable_iterator.__iter__" = some Builtin.«dict_keyiterator.__iter__» :=
  entryFor_alias (id' := "dict_keyiterator.__iter__") (by kernel_rfl) (by first | rfl | decide +kernel | (unfold String.splitOn; simp +decide [String.splitOnAux])) (by decide +kernel) (by kernel_rfl)
theorem lookup_method_call : typeLookup (.type "method") "__call__" = pure (some (.builtin "method.__call__")) := by rw [typeLookup_type, builtinLookup_eq_fast]; kernel_rfl
theorem entry_iter : entryFor table "iter" = some Builtin.«iter» := entryFor_of_tree (by kernel_rfl)
theorem args_iter_2 (a b : Value) : argsOk "iter" ⟨[a, b], []⟩ := by unfold argsOk; kernel_rfl
noncomputable abbrev ciObj (q : Addr) (v : Value) : Obj := { cls := .type "callable_iterator", data := .fields #[.ref q, v, .bool false] }
section
variable {prog : Program} {w : World} {A : Around} {E : Value → Shared → Prop} {s : Shared} {h₀ : Heap} {L : Addr} {m : Str → Option Value} {news : List (Addr × Obj)} {q it : Addr} {f self v : Value}
theorem iter_K {Q : Value → Shared → Prop} (F : Fr h₀ L s.heap m) (N : News h₀ L s.heap news) (hq : (q, methodObj f self) ∈ news)
    (h : ∀ it h', Fr h₀ L h' m → News h₀ L h' ((it, ciObj q v) :: news) → (∀ p ∈ news, p.1 < it) → Q (.ref it) { s with heap := h' }) :
    wpAny (model prog w) A (call (.builtin "iter") [.ref q, v]) Q E s := by
  refine Calls.call_function_entry (by decide +kernel) (by decide +kernel) entry_iter (args_iter_2 _ _) ?_
  unfold Builtin.«iter»
  refine wpAny_bind (wpAny_of_eq (a := [Value.ref q, v]) (by first | rfl | kernel_rfl) ?_)
  dsimp only
  refine wpAny_bind (wpAny_specialOf (T := "method") ⟨_, (N _ hq).1, rfl⟩ lookup_method_call ?_)
  simp only [Option.isNone_some, Bool.false_eq_true, if_false]
  refine wpAny_bind (wpAny_rule ?_)
  refine wpAny_bind ?_
  exact wpAny_newObj_type (wpAny_pure ⟨_, rfl, h _ _ (F.push _) (N.push F _) fun p hp => Heap.lt_size (N p hp).1⟩) (by size_fits)
theorem pyIter_ci {Q : Value → Shared → Prop} (N : News h₀ L s.heap news) (hm : (it, ciObj q v) ∈ news) (h : Q (.ref it) s) : wpAny (model prog w) A (pyIter (.ref it)) Q E s := by
  have hT : s.TypeIs (.ref it) "callable_iterator" := ⟨_, (N _ hm).1, rfl⟩
  refine wpAny_pyIter_slot hT slot_ci_iter (wpAny_call_entry slot_ci_iter hT entry_ci_iter ?_ (args_ci_iter_1 _))
  show wpAny _ _ (ret (.ref it)) _ _ s
  exact wpAny_pure ⟨_, rfl, "callable_iterator", _, hT, slot_ci_next.lookup, h⟩
theorem eqBool_str {x y : Str} {t u : Tok} {Q : Bool → Shared → Prop} (hne : x ≠ y) (h : Q false s) : wpAny (model prog w) A (eqBool (.str x t) (.str y u)) Q E s := by
  unfold eqBool
  refine wpAny_holding ?_
  have e1 : (Value.str x t == Value.str y u) = false := beq_eq_false_iff_ne.mpr fun e => hne (by cases e; rfl)
  rw [e1]
  simp only [Bool.false_eq_true, if_false]
  show wpAny _ _ (richCompare .Eq (.str x t) (.str y u) >>= _) _ _ _
  refine wpAny_bind (PyProof.Rows.eq_str ?_)
  have e2 : (x == y) = false := beq_eq_false_iff_ne.mpr hne
  rw [e2]
  exact wpAny_of_eq (a := false) rfl h
theorem next_ci {fo : Addr} {t0 : Tok} {fd : FuncData} {Q : Option Value → Shared → Prop} (N : News h₀ L s.heap news) (hm : (it, ciObj q (.str Str.empty t0)) ∈ news) (hq : (q, methodObj (.ref fo) self) ∈ news)
    (hf : ∃ o, s.heap.get? fo = some o ∧ o.data = .func fd)
    (h : codeAny (model prog w) A.in1 (.call (.ref fo) ⟨[self], []⟩) (fun r s' => s'.heap.get? it = some (ciObj q (.str Str.empty t0)) ∧ ∃ c t, r = .ok (.ret (.str ⟨#[c]⟩ t)) ∧ Q (some (.str ⟨#[c]⟩ t)) s') s) :
    wpAny (model prog w) A (pyNext (.ref it)) Q E s := by
  have ho := (N _ hm).1
  have hT : s.TypeIs (.ref it) "callable_iterator" := ⟨_, ho, rfl⟩
  unfold pyNext
  refine wpAny_bind (wpAny_attempt (wpAny_callSpecial?_slot (name := Str.ofString "__next__") hT slot_ci_next
    (wpAny_call_entry slot_ci_next hT entry_ci_next ?_ (args_ci_next_1 _))))
  unfold Builtin.«callable_iterator.__next__»
  refine wpAny_bind (wpAny_of_eq (a := (Value.ref it, [])) rfl ?_)
  dsimp only
  refine wpAny_bind (wpAny_field ho rfl (x := .bool false) rfl ?_)
  show wpAny _ _ (if (Value.bool false == Value.bool true) = true then _ else _) _ _ s
  rw [if_neg (show ¬ ((Value.bool false == Value.bool true) = true) from Bool.false_ne_true)]
  refine wpAny_bind (wpAny_field ho rfl (x := .ref q) rfl ?_)
  show wpAny _ _ ((callOutOfASlot (.ref q)).attempt >>= _) _ _ s
  refine wpAny_bind (wpAny_attempt ?_)
  obtain ⟨of, hof, hfd⟩ := hf
  unfold callOutOfASlot
  refine wpAny_bind (m := borrowsExactly (.ref q)) ?_
  refine wpAny_mono (Q := fun b s' => b = true ∧ s' = s) (E := fun _ _ => False) ?_ (fun b s' hb => ?_) (fun _ _ e => e.elim)
  · show wpAny _ _ (load q >>= _) _ _ s
    refine wpAny_bind (wpAny_load (N _ hq).1 ?_)
    show wpAny _ _ (load fo >>= _) _ _ s
    refine wpAny_bind (wpAny_load hof ?_)
    rw [hfd]
    exact wpAny_pure ⟨rfl, rfl⟩
  obtain ⟨rfl, rfl⟩ := hb
  simp only [if_true]
  refine PySem.W.X.x_call (k := _) ?_ (by intro x; cases x)
  show codeAny (model prog w) A.in1 (.call (.ref q) ⟨[], []⟩) _ _
  refine method_call (N _ hq).1 (codeAny_mono h fun r s' hr => ?_)
  obtain ⟨hit, c, t, rfl, hQ⟩ := hr
  show wpAny _ _ (Sem.pure _) _ _ _
  refine wpAny_pure ?_
  show wpAny _ _ (field (.ref it) 2 >>= _) _ _ _
  refine wpAny_bind (wpAny_field hit rfl (x := .bool false) rfl ?_)
  rw [if_neg (show ¬ ((Value.bool false == Value.bool true) = true) from Bool.false_ne_true)]
  refine wpAny_bind (wpAny_field hit rfl (x := .str Str.empty t0) rfl ?_)
  refine wpAny_bind (wpAny_holding (eqBool_str (x := Str.empty) (y := ⟨#[c]⟩) (by intro e; cases e) ?_))
  simp only [Bool.not_false, if_true]
  exact wpAny_pure ⟨_, rfl, wpAny_pure hQ⟩
end
end
-- S3
noncomputable def ln0 (c : Int) : Int := 6 + (1 + c.fmod 12)
noncomputable def ln1 (c : Int) : Int := ln0 c + (1 + (c.fdiv 12).fmod 12)
noncomputable def ln2 (c : Int) : Int := ln1 c + (1 + ((c.fdiv 12).fdiv 12).fmod 12)
noncomputable def ln3 (c : Int) : Int := ln2 c + (1 + (((c.fdiv 12).fdiv 12).fdiv 12).fmod 12)
noncomputable def lineBody : Option (Scope × List Stmt) := match (PySem.Challenge.pw_st0010_01.main.body.drop 59 : List Stmt) with
  | Stmt.FunctionDef _ _ (_ :: _ :: Stmt.For _ _ q _ _ :: _) _ _ _ sc _ _ _ :: _ => some (sc, q)
  | _ => none
set_option maxHeartbeats 8000000 in
theorem gap_turn {w : World} {A₀ : Around} {base g : Heap} {outer0 : List Env} {L0 L1 a0 : Addr} {mg mb : Str → Option Value} {s : Shared} {Q : Flow → Shared → Prop} {E : Value → Shared → Prop} {p : Program} {loose : List Str} {mean : ExcName → Option Value} {cn0 nm : Str} {cs0 : Scope} {ccd0 : Value} {cl0 : List (Str × Addr)} {gd : Option (List Code)} {sc : Scope} {m : Str → Option Value} {led : List (Addr × Obj)} {S : List Stmt} {c z : Int} {tc tz : Tok} {al : Addr} {vs : List Value} {vn : Nat}
    (hP : lineBody = some (sc, S)) (B1 : Below A₀ base (envX cn0 cs0 L0 a0 ccd0 cl0 :: outer0) g) (F0 : Fr g L1 s.heap m) (X1 : (Mine.KL w.params).In g) (T1 : Top p loose mean mg mb g) (N0 : News g L1 s.heap ((al, listOf vs.toArray vn) :: led)) (hC : m (Str.ofString "code") = some (.int c tc)) (hL : m (Str.ofString "last") = some (.int z tz)) (hN : m (Str.ofString "numbers") = some (.ref al)) (hz : vs.length ≤ 4) (off : ∀ q ∈ led, q.1 ≠ al)
    (hret : ∀ t1 t2 t3 vn' h' tk', Fr g L1 h' (fun y => if y = Str.ofString "last" then some (.int (z + (1 + c.fmod 12)) t1) else if y = Str.ofString "gap" then some (.int (c.fmod 12) t2) else if y = Str.ofString "code" then some (.int (c.fdiv 12) t3) else m y) → News g L1 h' ((al, listOf (vs ++ [Value.int (z + (1 + c.fmod 12)) t1]).toArray vn') :: led) → Q .next { s with heap := h', toks := tk' }) :
    wpAny (model PySem.Challenge.rw_st0010_01.row.prog w) ((ktrTop 500 500 gd cn0 cs0 L0 a0 ccd0 cl0 outer0).deeper (envOf nm sc L1 94 (.ref 93))) (execs S (envOf nm sc L1 94 (.ref 93))) Q E s := by
  obtain ⟨h0, g0, r9, k0, os0⟩ := s
  dsimp only at F0 N0 hret ⊢
  conv at hP => lhs; whnf
  injection hP with hP
  injection hP with hP1 hP2
  subst hP1 hP2
  revert X1; k_fill; intro X1
  repeat' ((fail_if_success (with_reducible show wpAny _ _ (newList _) _ _ _)); (fail_if_success (with_reducible show wpAny _ _ (call (Value.builtin "divmod") _) _ _ _)); (fail_if_success (with_reducible show wpAny _ _ (pyIter _) _ _ _)); (fail_if_success (with_reducible show wpAny _ _ (exec (Stmt.For _ _ _ _ _) _) _ _ _)); (fail_if_success (with_reducible show LeaveK h₀ _ _ _ _ _ _)); first | (k_unfold; (try dsimp only)) | (k_end; wrow_close) | (first | ((with_reducible show wpAny _ _ (loadName _ _) _ _ _); with_reducible ((k_here; k_dflt (refine' loadX_Lm ?F ?v ?_ ?a ?b; (case F => k_asm); (case a => rfl); (case b => rfl); (case v => first | with_reducible assumption | rfl | assumption); k_whole)))) | ((with_reducible show wpAny _ _ (eval (PySem.Expr.Name _ _) _) _ _ _); with_reducible ((k_here; k_dflt (refine' nameX_L ?F ?v ?_ ?a ?b; (case F => k_asm); (case a => rfl); (case b => rfl); (case v => first | with_reducible assumption | rfl | assumption); k_whole)))) | walk1) | (dsimp only; (first | ((with_reducible show wpAny _ _ (loadName _ _) _ _ _); with_reducible ((k_here; k_dflt (refine' loadX_Lm ?F ?v ?_ ?a ?b; (case F => k_asm); (case a => rfl); (case b => rfl); (case v => first | with_reducible assumption | rfl | assumption); k_whole)))) | ((with_reducible show wpAny _ _ (eval (PySem.Expr.Name _ _) _) _ _ _); with_reducible ((k_here; k_dflt (refine' nameX_L ?F ?v ?_ ?a ?b; (case F => k_asm); (case a => rfl); (case b => rfl); (case v => first | with_reducible assumption | rfl | assumption); k_whole)))) | walk1)) | (leave1; walk_say "STEP leave1"; try dsimp only) | fail "no step")
  refine divmod_K F0 N0 (by decide) (fun D h1 w1 w2 F1 N1 lD => ?_) (by first | exact Or.inl (PyProof.noPylong_of_log2 (by decide +kernel)) | exact Or.inl (PyProof.noPylong_small (by omega)) | exact Or.inr (PySem.PylongRoom.of (by first | assumption | (refine PySem.Heap.NoLimit.keeps ?_ (PyProof.Rows.Fr.keep (by assumption)); first | assumption | exact PyProof.Rows.Glob.nolimit (by assumption) | exact PyProof.Rows.Top.nolimit (by assumption)) | exact PyProof.Rows.Glob.nolimit (by assumption) | exact PyProof.Rows.Top.nolimit (by assumption)) (of_decide_eq_true (by with_unfolding_all rfl))) | assumption)
  clear F0 N0
  repeat' ((fail_if_success (with_reducible show wpAny _ _ (newList _) _ _ _)); (fail_if_success (with_reducible show wpAny _ _ (call (Value.builtin "divmod") _) _ _ _)); (fail_if_success (with_reducible show wpAny _ _ (pyIter _) _ _ _)); (fail_if_success (with_reducible show wpAny _ _ (exec (Stmt.For _ _ _ _ _) _) _ _ _)); (fail_if_success (with_reducible show LeaveK h₀ _ _ _ _ _ _)); first | (k_unfold; (try dsimp only)) | (k_end; wrow_close) | (first | ((with_reducible show wpAny _ _ (loadName _ _) _ _ _); with_reducible ((k_here; k_dflt (refine' loadX_Lm ?F ?v ?_ ?a ?b; (case F => k_asm); (case a => rfl); (case b => rfl); (case v => first | with_reducible assumption | rfl | assumption); k_whole)))) | ((with_reducible show wpAny _ _ (eval (PySem.Expr.Name _ _) _) _ _ _); with_reducible ((k_here; k_dflt (refine' nameX_L ?F ?v ?_ ?a ?b; (case F => k_asm); (case a => rfl); (case b => rfl); (case v => first | with_reducible assumption | rfl | assumption); k_whole)))) | walk1) | (dsimp only; (first | ((with_reducible show wpAny _ _ (loadName _ _) _ _ _); with_reducible ((k_here; k_dflt (refine' loadX_Lm ?F ?v ?_ ?a ?b; (case F => k_asm); (case a => rfl); (case b => rfl); (case v => first | with_reducible assumption | rfl | assumption); k_whole)))) | ((with_reducible show wpAny _ _ (eval (PySem.Expr.Name _ _) _) _ _ _); with_reducible ((k_here; k_dflt (refine' nameX_L ?F ?v ?_ ?a ?b; (case F => k_asm); (case a => rfl); (case b => rfl); (case v => first | with_reducible assumption | rfl | assumption); k_whole)))) | walk1)) | (leave1; walk_say "STEP leave1"; try dsimp only) | fail "no step")
  rename Fr g _ _ _ => F9
  rename News g _ _ _ => N9
  refine append_K F9 (News.sub N9 fun p hp => .tail _ hp) (.head off) (fun h' F2 N2 => ?_) (by rw [sizeLine_eq]; simp; omega)
  clear N9 F9
  dsimp only
  repeat' ((fail_if_success (with_reducible show wpAny _ _ (newList _) _ _ _)); (fail_if_success (with_reducible show wpAny _ _ (call (Value.builtin "divmod") _) _ _ _)); (fail_if_success (with_reducible show wpAny _ _ (pyIter _) _ _ _)); (fail_if_success (with_reducible show wpAny _ _ (exec (Stmt.For _ _ _ _ _) _) _ _ _)); (fail_if_success (with_reducible show LeaveK h₀ _ _ _ _ _ _)); first | (k_unfold; (try dsimp only)) | (k_end; wrow_close) | (first | ((with_reducible show wpAny _ _ (loadName _ _) _ _ _); with_reducible ((k_here; k_dflt (refine' loadX_Lm ?F ?v ?_ ?a ?b; (case F => k_asm); (case a => rfl); (case b => rfl); (case v => first | with_reducible assumption | rfl | assumption); k_whole)))) | ((with_reducible show wpAny _ _ (eval (PySem.Expr.Name _ _) _) _ _ _); with_reducible ((k_here; k_dflt (refine' nameX_L ?F ?v ?_ ?a ?b; (case F => k_asm); (case a => rfl); (case b => rfl); (case v => first | with_reducible assumption | rfl | assumption); k_whole)))) | walk1) | (dsimp only; (first | ((with_reducible show wpAny _ _ (loadName _ _) _ _ _); with_reducible ((k_here; k_dflt (refine' loadX_Lm ?F ?v ?_ ?a ?b; (case F => k_asm); (case a => rfl); (case b => rfl); (case v => first | with_reducible assumption | rfl | assumption); k_whole)))) | ((with_reducible show wpAny _ _ (eval (PySem.Expr.Name _ _) _) _ _ _); with_reducible ((k_here; k_dflt (refine' nameX_L ?F ?v ?_ ?a ?b; (case F => k_asm); (case a => rfl); (case b => rfl); (case v => first | with_reducible assumption | rfl | assumption); k_whole)))) | walk1)) | (leave1; walk_say "STEP leave1"; try dsimp only) | fail "no step")
  exact hret _ _ _ _ _ _ F2 (by simpa using N2)
noncomputable def cN (c : Int) : Nat → Int
  | 0 => c
  | i + 1 => (cN c i).fdiv 12
noncomputable def zN (c : Int) : Nat → Int
  | 0 => 6
  | i + 1 => zN c i + (1 + (cN c i).fmod 12)
inductive GJ (al : Addr) (c : Int) : Nat → (Str → Option Value) → List (Addr × Obj) → Prop
  | mk {i : Nat} {m1 : Str → Option Value} {gs : List Value} {gn : Nat} {t1 t2 : Tok} : m1 (Str.ofString "code") = some (.int (cN c i) t1) → m1 (Str.ofString "last") = some (.int (zN c i) t2) → m1 (Str.ofString "numbers") = some (.ref al) → IntsAre gs ((List.range i).map fun j => zN c (j + 1)) → GJ al c i m1 [(al, listOf gs.toArray gn)]
set_option maxHeartbeats 8000000 in
theorem gap_loop {w : World} {A₀ : Around} {base g : Heap} {outer0 : List Env} {L0 L1 a0 : Addr} {mg mb : Str → Option Value} {s : Shared} {Q : Flow → Shared → Prop} {E : Value → Shared → Prop} {p : Program} {loose : List Str} {mean : ExcName → Option Value} {cn0 nm : Str} {cs0 : Scope} {ccd0 : Value} {cl0 : List (Str × Addr)} {gd : Option (List Code)} {sc : Scope} {m : Str → Option Value} {led : List (Addr × Obj)} {S : List Stmt} {c : Int} {tc tz : Tok} {al rA : Addr} {vn : Nat} {tr1 tr2 tr3 : Tok}
    (hP : lineBody = some (sc, S)) (B1 : Below A₀ base (envX cn0 cs0 L0 a0 ccd0 cl0 :: outer0) g) (F0 : Fr g L1 s.heap m) (X1 : (Mine.KL w.params).In g) (T1 : Top p loose mean mg mb g) (N0 : News g L1 s.heap [(al, listOf #[] vn)]) (hrg : IsRange s.heap rA 0 4 1 tr1 tr2 tr3) (hC : m (Str.ofString "code") = some (.int c tc)) (hL : m (Str.ofString "last") = some (.int 6 tz)) (hN : m (Str.ofString "numbers") = some (.ref al))
    (hret : ∀ t0 t1 t2 t3 m' vn' h' tk', m' (Str.ofString "numbers") = some (.ref al) → Fr g L1 h' m' → News g L1 h' [(al, listOf #[.int (ln0 c) t0, .int (ln1 c) t1, .int (ln2 c) t2, .int (ln3 c) t3] vn')] → Q .next { s with heap := h', toks := tk' }) :
    wpAny (model PySem.Challenge.rw_st0010_01.row.prog w) ((ktrTop 500 500 gd cn0 cs0 L0 a0 ccd0 cl0 outer0).deeper (envOf nm sc L1 94 (.ref 93))) (pyIter (.ref rA)) (fun it s₂ => LoopAtV PySem.Challenge.rw_st0010_01.row.prog w ((ktrTop 500 500 gd cn0 cs0 L0 a0 ccd0 cl0 outer0).deeper (envOf nm sc L1 94 (.ref 93))) g (envOf nm sc L1 94 (.ref 93)) (Str.ofString "k") S Q E it s₂) E s := by
  have lal : @LT.lt Nat _ al s.heap.objs.size := Heap.lt_size (N0 _ (.head _)).1
  refine for_range (n := 4) rfl F0 N0 hrg (by rfl) (by rfl) (GJ al c) (.mk (gs := []) hC hL hN .nil) ?_ ?_
  · rintro i t m₁ news₁ h tk own Q' hi hJ hown _ F1 N1 hk
    cases hJ with
    | @mk gs gn ta tb hc hl hn hgs =>
    have hgl := hgs.length
    rw [List.length_map, List.length_range] at hgl
    refine gap_turn (led := own) (vs := gs) (vn := gn) hP B1 F1 X1 T1 (News.sub N1 fun q hq => ?_) ((if_neg (by decide)).trans hc) ((if_neg (by decide)).trans hl) ((if_neg (by decide)).trans hn) (by omega) (fun q hq => ?_) (fun t1 t2 t3 vn' h' tk' F2 N2 => ?_)
    · rcases List.mem_cons.mp hq with rfl | hq
      · exact List.mem_append_right _ (.head _)
      · exact List.mem_append_left _ hq
    · rw [hown q hq]; exact Nat.ne_of_gt lal
    · refine hk h' tk' _ _ F2 (News.sub N2 fun q hq => ?_) (fun q hq => ?_) (.mk (gs := gs ++ [Value.int (zN c i + (1 + (cN c i).fmod 12)) t1]) (gn := vn') (t1 := t3) (t2 := t1) rfl (if_pos rfl) ((if_neg (by decide)).trans ((if_neg (by decide)).trans ((if_neg (by decide)).trans ((if_neg (by decide)).trans hn)))) ?_)
      · rcases List.mem_append.mp hq with hq | hq
        · exact .tail _ hq
        · rw [List.mem_singleton.mp hq]; exact .head _
      · rw [List.mem_singleton.mp hq]; exact Nat.ne_of_lt lal
      · rw [List.range_succ, List.map_append]
        exact hgs.append (.cons _ _ .nil)
  · intro h' tk m' news' F' N' hJ
    generalize hk5 : 4 = k5 at hJ
    cases hJ with
    | mk hc hl hn hgs =>
      subst hk5
      replace hgs : IntsAre _ [zN c 1, zN c 2, zN c 3, zN c 4] := hgs
      cases hgs with
      | cons _ t0 hgs =>
      cases hgs with
      | cons _ t1 hgs =>
      cases hgs with
      | cons _ t2 hgs =>
      cases hgs with
      | cons _ t3 hgs =>
      cases hgs
      exact hret t0 t1 t2 t3 _ _ h' tk hn F' N'
set_option maxHeartbeats 8000000 in
theorem spec_line {w : World} {A₀ : Around} {base h₀ : Heap} {outer : List Env} {L a : Addr} {m mg mb : Str → Option Value} {s : Shared} {Q E : Value → Shared → Prop} {p : Program} {loose : List Str} {mean : ExcName → Option Value} {cn : Str} {cs : Scope} {ccd : Value} {cl : List (Str × Addr)} {gd : Option (List Code)}
    (B : Below A₀ base outer h₀) (F : Fr h₀ L s.heap m) (X : (Mine.KL w.params).In h₀) (T : Top p loose mean mg mb h₀) (hk : cs.kind = .function) (c : Int) (tc : Tok)
    (hret : ∀ l t0 t1 t2 t3 n h' tk', Fr h₀ L h' m → News h₀ L h' [(l, listOf #[.int (ln0 c) t0, .int (ln1 c) t1, .int (ln2 c) t2, .int (ln3 c) t3] n)] → Keeps s.heap h' [] → Q (.ref l) { s with heap := h', toks := tk' }) :
    wpAny (model PySem.Challenge.rw_st0010_01.row.prog w) (ktrTop 500 500 gd cn cs L a ccd cl outer) (call (.ref 94) [.int c tc]) Q E s := by
  have N : News h₀ L s.heap [] := News.nil
  revert X; k_fill; intro X
  refine wpAny_call ?_
  refine' enter_K2 ?k1 ?k2 ?k3 ?k4 ?k5 ?kA ?kF ?kK ?k6 ?k7 ?k8 ?k9 ?kB ?_ ?c2 ?c3 ?c4 ?c5
  (case kA => exact rfl)
  (case kF => exact rfl)
  (case kK => assumption)
  (case k1 => k_asm)
  (case k2 => k_asm)
  (case k3 => k_asm)
  (case k4 => exact N)
  (case k5 => k_asm)
  (case k6 => k_is)
  (case k7 => k_is)
  (case k8 => exact Nat.le_of_ble_eq_true rfl)
  (case k9 => exact BindsTo.of_eq rfl)
  (case c5 => decide)
  (case kB => exact locs rfl)
  (case c2 => exact rfl)
  (case c3 => exact rfl)
  (case c4 => exact rfl)
  intro g1 L1 h1 FG F1 N1 B1 X1 T1 kp l1 hsz
  (try dsimp only)
  (try k_lift B1)
  repeat' ((fail_if_success (with_reducible show wpAny _ _ (newList _) _ _ _)); (fail_if_success (with_reducible show wpAny _ _ (call (Value.builtin "divmod") _) _ _ _)); (fail_if_success (with_reducible show wpAny _ _ (pyIter _) _ _ _)); (fail_if_success (with_reducible show wpAny _ _ (exec (Stmt.For _ _ _ _ _) _) _ _ _)); (fail_if_success (with_reducible show LeaveK h₀ _ _ _ _ _ _)); first | (k_unfold; (try dsimp only)) | (k_end; wrow_close) | (first | ((with_reducible show wpAny _ _ (loadName _ _) _ _ _); with_reducible ((k_here; k_dflt (refine' loadX_Lm ?F ?v ?_ ?a ?b; (case F => k_asm); (case a => rfl); (case b => rfl); (case v => first | with_reducible assumption | rfl | assumption); k_whole)))) | ((with_reducible show wpAny _ _ (eval (PySem.Expr.Name _ _) _) _ _ _); with_reducible ((k_here; k_dflt (refine' nameX_L ?F ?v ?_ ?a ?b; (case F => k_asm); (case a => rfl); (case b => rfl); (case v => first | with_reducible assumption | rfl | assumption); k_whole)))) | walk1) | (dsimp only; (first | ((with_reducible show wpAny _ _ (loadName _ _) _ _ _); with_reducible ((k_here; k_dflt (refine' loadX_Lm ?F ?v ?_ ?a ?b; (case F => k_asm); (case a => rfl); (case b => rfl); (case v => first | with_reducible assumption | rfl | assumption); k_whole)))) | ((with_reducible show wpAny _ _ (eval (PySem.Expr.Name _ _) _) _ _ _); with_reducible ((k_here; k_dflt (refine' nameX_L ?F ?v ?_ ?a ?b; (case F => k_asm); (case a => rfl); (case b => rfl); (case v => first | with_reducible assumption | rfl | assumption); k_whole)))) | walk1)) | (leave1; walk_say "STEP leave1"; try dsimp only) | fail "no step")
  refine newList_K2 F1 N1 (fun al h2 F2 N2 lz _ => ?_) (by size_fits)
  clear F1 N1
  dsimp only
  repeat' ((fail_if_success (with_reducible show wpAny _ _ (newList _) _ _ _)); (fail_if_success (with_reducible show wpAny _ _ (call (Value.builtin "divmod") _) _ _ _)); (fail_if_success (with_reducible show wpAny _ _ (pyIter _) _ _ _)); (fail_if_success (with_reducible show wpAny _ _ (exec (Stmt.For _ _ _ _ _) _) _ _ _)); (fail_if_success (with_reducible show LeaveK h₀ _ _ _ _ _ _)); first | (k_unfold; (try dsimp only)) | (k_end; wrow_close) | (first | ((with_reducible show wpAny _ _ (loadName _ _) _ _ _); with_reducible ((k_here; k_dflt (refine' loadX_Lm ?F ?v ?_ ?a ?b; (case F => k_asm); (case a => rfl); (case b => rfl); (case v => first | with_reducible assumption | rfl | assumption); k_whole)))) | ((with_reducible show wpAny _ _ (eval (PySem.Expr.Name _ _) _) _ _ _); with_reducible ((k_here; k_dflt (refine' nameX_L ?F ?v ?_ ?a ?b; (case F => k_asm); (case a => rfl); (case b => rfl); (case v => first | with_reducible assumption | rfl | assumption); k_whole)))) | walk1) | (dsimp only; (first | ((with_reducible show wpAny _ _ (loadName _ _) _ _ _); with_reducible ((k_here; k_dflt (refine' loadX_Lm ?F ?v ?_ ?a ?b; (case F => k_asm); (case a => rfl); (case b => rfl); (case v => first | with_reducible assumption | rfl | assumption); k_whole)))) | ((with_reducible show wpAny _ _ (eval (PySem.Expr.Name _ _) _) _ _ _); with_reducible ((k_here; k_dflt (refine' nameX_L ?F ?v ?_ ?a ?b; (case F => k_asm); (case a => rfl); (case b => rfl); (case v => first | with_reducible assumption | rfl | assumption); k_whole)))) | walk1)) | (leave1; walk_say "STEP leave1"; try dsimp only) | fail "no step")
  rename Fr g1 _ _ _ => F3
  rename News g1 _ _ _ => N3
  refine For_invVF F3 (by rfl) (by rfl) ?_
  repeat' ((fail_if_success (with_reducible show wpAny _ _ (newList _) _ _ _)); (fail_if_success (with_reducible show wpAny _ _ (call (Value.builtin "divmod") _) _ _ _)); (fail_if_success (with_reducible show wpAny _ _ (pyIter _) _ _ _)); (fail_if_success (with_reducible show wpAny _ _ (exec (Stmt.For _ _ _ _ _) _) _ _ _)); (fail_if_success (with_reducible show LeaveK h₀ _ _ _ _ _ _)); first | (k_unfold; (try dsimp only)) | (k_end; wrow_close) | (first | ((with_reducible show wpAny _ _ (loadName _ _) _ _ _); with_reducible ((k_here; k_dflt (refine' loadX_Lm ?F ?v ?_ ?a ?b; (case F => k_asm); (case a => rfl); (case b => rfl); (case v => first | with_reducible assumption | rfl | assumption); k_whole)))) | ((with_reducible show wpAny _ _ (eval (PySem.Expr.Name _ _) _) _ _ _); with_reducible ((k_here; k_dflt (refine' nameX_L ?F ?v ?_ ?a ?b; (case F => k_asm); (case a => rfl); (case b => rfl); (case v => first | with_reducible assumption | rfl | assumption); k_whole)))) | walk1) | (dsimp only; (first | ((with_reducible show wpAny _ _ (loadName _ _) _ _ _); with_reducible ((k_here; k_dflt (refine' loadX_Lm ?F ?v ?_ ?a ?b; (case F => k_asm); (case a => rfl); (case b => rfl); (case v => first | with_reducible assumption | rfl | assumption); k_whole)))) | ((with_reducible show wpAny _ _ (eval (PySem.Expr.Name _ _) _) _ _ _); with_reducible ((k_here; k_dflt (refine' nameX_L ?F ?v ?_ ?a ?b; (case F => k_asm); (case a => rfl); (case b => rfl); (case v => first | with_reducible assumption | rfl | assumption); k_whole)))) | walk1)) | (leave1; walk_say "STEP leave1"; try dsimp only) | fail "no step")
  rename Fr g1 _ _ _ => F4
  rename News g1 _ _ _ => N4
  rename IsRange _ _ _ _ _ _ _ _ => hrg
  refine gap_loop (led := []) rfl B1 F4 X1 T1 (News.sub N4 (mem_one (by k_mem))) hrg rfl rfl rfl fun t0 t1 t2 t3 m5 vn5 h5 tk5 hn5 F5 N5 => ?_
  clear F4 N4
  dsimp only
  repeat' ((fail_if_success (with_reducible show wpAny _ _ (newList _) _ _ _)); (fail_if_success (with_reducible show wpAny _ _ (call (Value.builtin "divmod") _) _ _ _)); (fail_if_success (with_reducible show wpAny _ _ (pyIter _) _ _ _)); (fail_if_success (with_reducible show wpAny _ _ (exec (Stmt.For _ _ _ _ _) _) _ _ _)); (fail_if_success (with_reducible show LeaveK h₀ _ _ _ _ _ _)); first | (k_unfold; (try dsimp only)) | (k_end; wrow_close) | (first | ((with_reducible show wpAny _ _ (loadName _ _) _ _ _); with_reducible ((k_here; k_dflt (refine' loadX_Lm ?F ?v ?_ ?a ?b; (case F => k_asm); (case a => rfl); (case b => rfl); (case v => first | with_reducible assumption | rfl | assumption); k_whole)))) | ((with_reducible show wpAny _ _ (eval (PySem.Expr.Name _ _) _) _ _ _); with_reducible ((k_here; k_dflt (refine' nameX_L ?F ?v ?_ ?a ?b; (case F => k_asm); (case a => rfl); (case b => rfl); (case v => first | with_reducible assumption | rfl | assumption); k_whole)))) | walk1) | (dsimp only; (first | ((with_reducible show wpAny _ _ (loadName _ _) _ _ _); with_reducible ((k_here; k_dflt (refine' loadX_Lm ?F ?v ?_ ?a ?b; (case F => k_asm); (case a => rfl); (case b => rfl); (case v => first | with_reducible assumption | rfl | assumption); k_whole)))) | ((with_reducible show wpAny _ _ (eval (PySem.Expr.Name _ _) _) _ _ _); with_reducible ((k_here; k_dflt (refine' nameX_L ?F ?v ?_ ?a ?b; (case F => k_asm); (case a => rfl); (case b => rfl); (case v => first | with_reducible assumption | rfl | assumption); k_whole)))) | walk1)) | (leave1; walk_say "STEP leave1"; try dsimp only) | fail "no step")
  refine leave_K F5 N5 kp ?_
  intro kF kN kK
  dsimp only
  exact hret al t0 t1 t2 t3 _ _ _ kF kN kK
-- S4
section
noncomputable def bit (b : Int) (i : Nat) : Bool := decide ((b.fdiv (2 ^ (0 + (i : Int)).toNat)).fmod 2 = 1)
noncomputable def balGo {α : Type} : List Bool → List α → List α → List α
  | [], _, acc => acc
  | true :: bs, x :: left, acc => balGo bs left (x :: acc)
  | false :: bs, left, acc => match left.reverse with
    | x :: r => balGo bs r.reverse (x :: acc)
    | [] => acc
  | _ :: _, [], acc => acc
noncomputable def balL {α : Type} (b : Int) (xs : List α) : List α := balGo [bit b 0, bit b (0 + 1), bit b (0 + 1 + 1), bit b (0 + 1 + 1 + 1)] xs []
noncomputable def balBody : Option (Scope × List Stmt) := match (PySem.Challenge.pw_st0010_01.main.body.drop 60 : List Stmt) with
  | Stmt.FunctionDef _ _ (_ :: _ :: Stmt.For _ _ q _ _ :: _) _ _ _ sc _ _ _ :: _ => some (sc, q)
  | _ => none
noncomputable def balTest : Option (Scope × Expr) := match balBody with
  | some (sc, [Stmt.If t _ _ _]) => some (sc, t)
  | _ => none
noncomputable def balYes : Option (Scope × List Stmt) := match balBody with
  | some (sc, [Stmt.If _ a _ _]) => some (sc, a)
  | _ => none
noncomputable def balNo : Option (Scope × List Stmt) := match balBody with
  | some (sc, [Stmt.If _ _ a _]) => some (sc, a)
  | _ => none
set_option maxHeartbeats 8000000 in
theorem bal_test {w : World} {A₀ : Around} {base g : Heap} {outer0 : List Env} {L0 L1 a0 : Addr} {mg mb : Str → Option Value} {s : Shared} {Q : Bool → Shared → Prop} {E : Value → Shared → Prop} {p : Program} {loose : List Str} {mean : ExcName → Option Value} {cn0 nm : Str} {cs0 : Scope} {ccd0 : Value} {cl0 : List (Str × Addr)} {gd : Option (List Code)} {sc : Scope} {m : Str → Option Value} {led : List (Addr × Obj)} {S : Expr} {b : Int} {tb tk : Tok} {i : Nat}
    (hP : balTest = some (sc, S)) (B1 : Below A₀ base (envX cn0 cs0 L0 a0 ccd0 cl0 :: outer0) g) (F0 : Fr g L1 s.heap m) (X1 : (Mine.KL w.params).In g) (T1 : Top p loose mean mg mb g) (N0 : News g L1 s.heap led) (hb : m (Str.ofString "bits") = some (.int b tb)) (hk : m (Str.ofString "k") = some (.int (0 + (i : Int)) tk)) (hi : i < 4)
    (hret : ∀ tk', Q (bit b i) { s with toks := tk' }) :
    wpAny (model PySem.Challenge.rw_st0010_01.row.prog w) ((ktrTop 500 500 gd cn0 cs0 L0 a0 ccd0 cl0 outer0).deeper (envOf nm sc L1 101 (.ref 100))) (isTrue S (envOf nm sc L1 101 (.ref 100)) (eval S (envOf nm sc L1 101 (.ref 100)))) Q E s := by
  obtain ⟨h0, g0, r9, k0, os0⟩ := s
  dsimp only at F0 N0 hret ⊢
  conv at hP => lhs; whnf
  injection hP with hP
  injection hP with hP1 hP2
  subst hP1 hP2
  revert X1; k_fill; intro X1
  match i, hi with
  | 0, _ =>
    repeat' ((fail_if_success (with_reducible show wpAny _ _ (newList _) _ _ _)); (fail_if_success (with_reducible show wpAny _ _ (call (Value.builtin "list.pop") _) _ _ _)); (fail_if_success (with_reducible show wpAny _ _ (call (Value.builtin "list.insert") _) _ _ _)); (fail_if_success (with_reducible show wpAny _ _ (call (Value.builtin "list") _) _ _ _)); (fail_if_success (with_reducible show wpAny _ _ (call (Value.type "list") _) _ _ _)); (fail_if_success (with_reducible show wpAny _ _ (pyIter _) _ _ _)); (fail_if_success (with_reducible show wpAny _ _ (exec (Stmt.For _ _ _ _ _) _) _ _ _)); (fail_if_success (with_reducible show LeaveK h₀ _ _ _ _ _ _)); first | (k_unfold; (try dsimp only)) | (k_end; wrow_close) | (first | ((with_reducible show wpAny _ _ (loadName _ _) _ _ _); with_reducible ((k_here; k_dflt (refine' loadX_Lm ?F ?v ?_ ?a ?b; (case F => k_asm); (case a => rfl); (case b => rfl); (case v => first | with_reducible assumption | rfl | assumption); k_whole)))) | ((with_reducible show wpAny _ _ (eval (PySem.Expr.Name _ _) _) _ _ _); with_reducible ((k_here; k_dflt (refine' nameX_L ?F ?v ?_ ?a ?b; (case F => k_asm); (case a => rfl); (case b => rfl); (case v => first | with_reducible assumption | rfl | assumption); k_whole)))) | walk1) | (dsimp only; (first | ((with_reducible show wpAny _ _ (loadName _ _) _ _ _); with_reducible ((k_here; k_dflt (refine' loadX_Lm ?F ?v ?_ ?a ?b; (case F => k_asm); (case a => rfl); (case b => rfl); (case v => first | with_reducible assumption | rfl | assumption); k_whole)))) | ((with_reducible show wpAny _ _ (eval (PySem.Expr.Name _ _) _) _ _ _); with_reducible ((k_here; k_dflt (refine' nameX_L ?F ?v ?_ ?a ?b; (case F => k_asm); (case a => rfl); (case b => rfl); (case v => first | with_reducible assumption | rfl | assumption); k_whole)))) | walk1)) | (leave1; walk_say "STEP leave1"; try dsimp only) | fail "no step")
    exact hret _
  | 1, _ =>
    repeat' ((fail_if_success (with_reducible show wpAny _ _ (newList _) _ _ _)); (fail_if_success (with_reducible show wpAny _ _ (call (Value.builtin "list.pop") _) _ _ _)); (fail_if_success (with_reducible show wpAny _ _ (call (Value.builtin "list.insert") _) _ _ _)); (fail_if_success (with_reducible show wpAny _ _ (call (Value.builtin "list") _) _ _ _)); (fail_if_success (with_reducible show wpAny _ _ (call (Value.type "list") _) _ _ _)); (fail_if_success (with_reducible show wpAny _ _ (pyIter _) _ _ _)); (fail_if_success (with_reducible show wpAny _ _ (exec (Stmt.For _ _ _ _ _) _) _ _ _)); (fail_if_success (with_reducible show LeaveK h₀ _ _ _ _ _ _)); first | (k_unfold; (try dsimp only)) | (k_end; wrow_close) | (first | ((with_reducible show wpAny _ _ (loadName _ _) _ _ _); with_reducible ((k_here; k_dflt (refine' loadX_Lm ?F ?v ?_ ?a ?b; (case F => k_asm); (case a => rfl); (case b => rfl); (case v => first | with_reducible assumption | rfl | assumption); k_whole)))) | ((with_reducible show wpAny _ _ (eval (PySem.Expr.Name _ _) _) _ _ _); with_reducible ((k_here; k_dflt (refine' nameX_L ?F ?v ?_ ?a ?b; (case F => k_asm); (case a => rfl); (case b => rfl); (case v => first | with_reducible assumption | rfl | assumption); k_whole)))) | walk1) | (dsimp only; (first | ((with_reducible show wpAny _ _ (loadName _ _) _ _ _); with_reducible ((k_here; k_dflt (refine' loadX_Lm ?F ?v ?_ ?a ?b; (case F => k_asm); (case a => rfl); (case b => rfl); (case v => first | with_reducible assumption | rfl | assumption); k_whole)))) | ((with_reducible show wpAny _ _ (eval (PySem.Expr.Name _ _) _) _ _ _); with_reducible ((k_here; k_dflt (refine' nameX_L ?F ?v ?_ ?a ?b; (case F => k_asm); (case a => rfl); (case b => rfl); (case v => first | with_reducible assumption | rfl | assumption); k_whole)))) | walk1)) | (leave1; walk_say "STEP leave1"; try dsimp only) | fail "no step")
    exact hret _
  | 2, _ =>
    repeat' ((fail_if_success (with_reducible show wpAny _ _ (newList _) _ _ _)); (fail_if_success (with_reducible show wpAny _ _ (call (Value.builtin "list.pop") _) _ _ _)); (fail_if_success (with_reducible show wpAny _ _ (call (Value.builtin "list.insert") _) _ _ _)); (fail_if_success (with_reducible show wpAny _ _ (call (Value.builtin "list") _) _ _ _)); (fail_if_success (with_reducible show wpAny _ _ (call (Value.type "list") _) _ _ _)); (fail_if_success (with_reducible show wpAny _ _ (pyIter _) _ _ _)); (fail_if_success (with_reducible show wpAny _ _ (exec (Stmt.For _ _ _ _ _) _) _ _ _)); (fail_if_success (with_reducible show LeaveK h₀ _ _ _ _ _ _)); first | (k_unfold; (try dsimp only)) | (k_end; wrow_close) | (first | ((with_reducible show wpAny _ _ (loadName _ _) _ _ _); with_reducible ((k_here; k_dflt (refine' loadX_Lm ?F ?v ?_ ?a ?b; (case F => k_asm); (case a => rfl); (case b => rfl); (case v => first | with_reducible assumption | rfl | assumption); k_whole)))) | ((with_reducible show wpAny _ _ (eval (PySem.Expr.Name _ _) _) _ _ _); with_reducible ((k_here; k_dflt (refine' nameX_L ?F ?v ?_ ?a ?b; (case F => k_asm); (case a => rfl); (case b => rfl); (case v => first | with_reducible assumption | rfl | assumption); k_whole)))) | walk1) | (dsimp only; (first | ((with_reducible show wpAny _ _ (loadName _ _) _ _ _); with_reducible ((k_here; k_dflt (refine' loadX_Lm ?F ?v ?_ ?a ?b; (case F => k_asm); (case a => rfl); (case b => rfl); (case v => first | with_reducible assumption | rfl | assumption); k_whole)))) | ((with_reducible show wpAny _ _ (eval (PySem.Expr.Name _ _) _) _ _ _); with_reducible ((k_here; k_dflt (refine' nameX_L ?F ?v ?_ ?a ?b; (case F => k_asm); (case a => rfl); (case b => rfl); (case v => first | with_reducible assumption | rfl | assumption); k_whole)))) | walk1)) | (leave1; walk_say "STEP leave1"; try dsimp only) | fail "no step")
    exact hret _
  | 3, _ =>
    repeat' ((fail_if_success (with_reducible show wpAny _ _ (newList _) _ _ _)); (fail_if_success (with_reducible show wpAny _ _ (call (Value.builtin "list.pop") _) _ _ _)); (fail_if_success (with_reducible show wpAny _ _ (call (Value.builtin "list.insert") _) _ _ _)); (fail_if_success (with_reducible show wpAny _ _ (call (Value.builtin "list") _) _ _ _)); (fail_if_success (with_reducible show wpAny _ _ (call (Value.type "list") _) _ _ _)); (fail_if_success (with_reducible show wpAny _ _ (pyIter _) _ _ _)); (fail_if_success (with_reducible show wpAny _ _ (exec (Stmt.For _ _ _ _ _) _) _ _ _)); (fail_if_success (with_reducible show LeaveK h₀ _ _ _ _ _ _)); first | (k_unfold; (try dsimp only)) | (k_end; wrow_close) | (first | ((with_reducible show wpAny _ _ (loadName _ _) _ _ _); with_reducible ((k_here; k_dflt (refine' loadX_Lm ?F ?v ?_ ?a ?b; (case F => k_asm); (case a => rfl); (case b => rfl); (case v => first | with_reducible assumption | rfl | assumption); k_whole)))) | ((with_reducible show wpAny _ _ (eval (PySem.Expr.Name _ _) _) _ _ _); with_reducible ((k_here; k_dflt (refine' nameX_L ?F ?v ?_ ?a ?b; (case F => k_asm); (case a => rfl); (case b => rfl); (case v => first | with_reducible assumption | rfl | assumption); k_whole)))) | walk1) | (dsimp only; (first | ((with_reducible show wpAny _ _ (loadName _ _) _ _ _); with_reducible ((k_here; k_dflt (refine' loadX_Lm ?F ?v ?_ ?a ?b; (case F => k_asm); (case a => rfl); (case b => rfl); (case v => first | with_reducible assumption | rfl | assumption); k_whole)))) | ((with_reducible show wpAny _ _ (eval (PySem.Expr.Name _ _) _) _ _ _); with_reducible ((k_here; k_dflt (refine' nameX_L ?F ?v ?_ ?a ?b; (case F => k_asm); (case a => rfl); (case b => rfl); (case v => first | with_reducible assumption | rfl | assumption); k_whole)))) | walk1)) | (leave1; walk_say "STEP leave1"; try dsimp only) | fail "no step")
    exact hret _
section
variable {prog : Program} {w : World} {A : Around} {E : Value → Shared → Prop} {s : Shared} {h₀ : Heap} {L : Addr} {m : Str → Option Value} {news news' : List (Addr × Obj)} {l : Addr} {n : Nat}
theorem pop_head {xs : List Value} {v : Value} {t : Tok} {Q : Value → Shared → Prop} (F : Fr h₀ L s.heap m) (N : News h₀ L s.heap news) (U : Upd l (listOf (v :: xs).toArray n) (listOf xs.toArray (n + 1)) news news') (hz : xs.length ≤ 1000000)
    (h : ∀ h', Fr h₀ L h' m → News h₀ L h' news' → Q v { s with heap := h' }) : wpAny (model prog w) A (call (.builtin "list.pop") [.ref l, .int 0 t]) Q E s := by
  refine kl_popAt F N (k := 0) (p := []) (q := xs) (y := v) (by decide) ?_ rfl (by simpa using U) (by rw [sizeLine_eq]; simp; omega) h
  unfold seqIndex?
  simp
end
set_option maxHeartbeats 8000000 in
theorem bal_yes {w : World} {A₀ : Around} {base g : Heap} {outer0 : List Env} {L0 L1 a0 : Addr} {mg mb : Str → Option Value} {s : Shared} {Q : Flow → Shared → Prop} {E : Value → Shared → Prop} {p : Program} {loose : List Str} {mean : ExcName → Option Value} {cn0 nm : Str} {cs0 : Scope} {ccd0 : Value} {cl0 : List (Str × Addr)} {gd : Option (List Code)} {sc : Scope} {m : Str → Option Value} {led : List (Addr × Obj)} {S : List Stmt} {la ba : Addr} {v : Value} {xs ys : List Value} {xn yn : Nat}
    (hP : balYes = some (sc, S)) (B1 : Below A₀ base (envX cn0 cs0 L0 a0 ccd0 cl0 :: outer0) g) (F0 : Fr g L1 s.heap m) (X1 : (Mine.KL w.params).In g) (T1 : Top p loose mean mg mb g) (N0 : News g L1 s.heap ((la, listOf (v :: xs).toArray xn) :: (ba, listOf ys.toArray yn) :: led)) (hl : m (Str.ofString "left") = some (.ref la)) (hb : m (Str.ofString "ballot") = some (.ref ba)) (hlb : la ≠ ba) (off : ∀ q ∈ led, q.1 ≠ la ∧ q.1 ≠ ba) (hx : xs.length ≤ 4) (hy : ys.length ≤ 4)
    (hret : ∀ xn' yn' h' tk', Fr g L1 h' m → News g L1 h' ((la, listOf xs.toArray xn') :: (ba, listOf (v :: ys).toArray yn') :: led) → Q .next { s with heap := h', toks := tk' }) :
    wpAny (model PySem.Challenge.rw_st0010_01.row.prog w) ((ktrTop 500 500 gd cn0 cs0 L0 a0 ccd0 cl0 outer0).deeper (envOf nm sc L1 101 (.ref 100))) (execs S (envOf nm sc L1 101 (.ref 100))) Q E s := by
  obtain ⟨h0, g0, r9, k0, os0⟩ := s
  dsimp only at F0 N0 hret ⊢
  conv at hP => lhs; whnf
  injection hP with hP
  injection hP with hP1 hP2
  subst hP1 hP2
  revert X1; k_fill; intro X1
  repeat' ((fail_if_success (with_reducible show wpAny _ _ (newList _) _ _ _)); (fail_if_success (with_reducible show wpAny _ _ (call (Value.builtin "list.pop") _) _ _ _)); (fail_if_success (with_reducible show wpAny _ _ (call (Value.builtin "list.insert") _) _ _ _)); (fail_if_success (with_reducible show wpAny _ _ (call (Value.builtin "list") _) _ _ _)); (fail_if_success (with_reducible show wpAny _ _ (call (Value.type "list") _) _ _ _)); (fail_if_success (with_reducible show wpAny _ _ (pyIter _) _ _ _)); (fail_if_success (with_reducible show wpAny _ _ (exec (Stmt.For _ _ _ _ _) _) _ _ _)); (fail_if_success (with_reducible show LeaveK h₀ _ _ _ _ _ _)); first | (k_unfold; (try dsimp only)) | (k_end; wrow_close) | (first | ((with_reducible show wpAny _ _ (loadName _ _) _ _ _); with_reducible ((k_here; k_dflt (refine' loadX_Lm ?F ?v ?_ ?a ?b; (case F => k_asm); (case a => rfl); (case b => rfl); (case v => first | with_reducible assumption | rfl | assumption); k_whole)))) | ((with_reducible show wpAny _ _ (eval (PySem.Expr.Name _ _) _) _ _ _); with_reducible ((k_here; k_dflt (refine' nameX_L ?F ?v ?_ ?a ?b; (case F => k_asm); (case a => rfl); (case b => rfl); (case v => first | with_reducible assumption | rfl | assumption); k_whole)))) | walk1) | (dsimp only; (first | ((with_reducible show wpAny _ _ (loadName _ _) _ _ _); with_reducible ((k_here; k_dflt (refine' loadX_Lm ?F ?v ?_ ?a ?b; (case F => k_asm); (case a => rfl); (case b => rfl); (case v => first | with_reducible assumption | rfl | assumption); k_whole)))) | ((with_reducible show wpAny _ _ (eval (PySem.Expr.Name _ _) _) _ _ _); with_reducible ((k_here; k_dflt (refine' nameX_L ?F ?v ?_ ?a ?b; (case F => k_asm); (case a => rfl); (case b => rfl); (case v => first | with_reducible assumption | rfl | assumption); k_whole)))) | walk1)) | (leave1; walk_say "STEP leave1"; try dsimp only) | fail "no step")
  refine pop_head F0 N0 (.head fun p hp => ?_) (by omega) (fun h1 F1 N1 => ?_)
  · rcases List.mem_cons.mp hp with rfl | hp
    · exact Ne.symm hlb
    · exact (off p hp).1
  clear F0 N0
  dsimp only
  repeat' ((fail_if_success (with_reducible show wpAny _ _ (newList _) _ _ _)); (fail_if_success (with_reducible show wpAny _ _ (call (Value.builtin "list.pop") _) _ _ _)); (fail_if_success (with_reducible show wpAny _ _ (call (Value.builtin "list.insert") _) _ _ _)); (fail_if_success (with_reducible show wpAny _ _ (call (Value.builtin "list") _) _ _ _)); (fail_if_success (with_reducible show wpAny _ _ (call (Value.type "list") _) _ _ _)); (fail_if_success (with_reducible show wpAny _ _ (pyIter _) _ _ _)); (fail_if_success (with_reducible show wpAny _ _ (exec (Stmt.For _ _ _ _ _) _) _ _ _)); (fail_if_success (with_reducible show LeaveK h₀ _ _ _ _ _ _)); first | (k_unfold; (try dsimp only)) | (k_end; wrow_close) | (first | ((with_reducible show wpAny _ _ (loadName _ _) _ _ _); with_reducible ((k_here; k_dflt (refine' loadX_Lm ?F ?v ?_ ?a ?b; (case F => k_asm); (case a => rfl); (case b => rfl); (case v => first | with_reducible assumption | rfl | assumption); k_whole)))) | ((with_reducible show wpAny _ _ (eval (PySem.Expr.Name _ _) _) _ _ _); with_reducible ((k_here; k_dflt (refine' nameX_L ?F ?v ?_ ?a ?b; (case F => k_asm); (case a => rfl); (case b => rfl); (case v => first | with_reducible assumption | rfl | assumption); k_whole)))) | walk1) | (dsimp only; (first | ((with_reducible show wpAny _ _ (loadName _ _) _ _ _); with_reducible ((k_here; k_dflt (refine' loadX_Lm ?F ?v ?_ ?a ?b; (case F => k_asm); (case a => rfl); (case b => rfl); (case v => first | with_reducible assumption | rfl | assumption); k_whole)))) | ((with_reducible show wpAny _ _ (eval (PySem.Expr.Name _ _) _) _ _ _); with_reducible ((k_here; k_dflt (refine' nameX_L ?F ?v ?_ ?a ?b; (case F => k_asm); (case a => rfl); (case b => rfl); (case v => first | with_reducible assumption | rfl | assumption); k_whole)))) | walk1)) | (leave1; walk_say "STEP leave1"; try dsimp only) | fail "no step")
  refine kl_insert F1 N1 rfl rfl (.tail hlb (.head fun p hp => (off p hp).2)) (by rw [sizeLine_eq]; show ys.length ≤ _; omega) (fun h2 F2 N2 => ?_)
  clear F1 N1
  dsimp only
  repeat' ((fail_if_success (with_reducible show wpAny _ _ (newList _) _ _ _)); (fail_if_success (with_reducible show wpAny _ _ (call (Value.builtin "list.pop") _) _ _ _)); (fail_if_success (with_reducible show wpAny _ _ (call (Value.builtin "list.insert") _) _ _ _)); (fail_if_success (with_reducible show wpAny _ _ (call (Value.builtin "list") _) _ _ _)); (fail_if_success (with_reducible show wpAny _ _ (call (Value.type "list") _) _ _ _)); (fail_if_success (with_reducible show wpAny _ _ (pyIter _) _ _ _)); (fail_if_success (with_reducible show wpAny _ _ (exec (Stmt.For _ _ _ _ _) _) _ _ _)); (fail_if_success (with_reducible show LeaveK h₀ _ _ _ _ _ _)); first | (k_unfold; (try dsimp only)) | (k_end; wrow_close) | (first | ((with_reducible show wpAny _ _ (loadName _ _) _ _ _); with_reducible ((k_here; k_dflt (refine' loadX_Lm ?F ?v ?_ ?a ?b; (case F => k_asm); (case a => rfl); (case b => rfl); (case v => first | with_reducible assumption | rfl | assumption); k_whole)))) | ((with_reducible show wpAny _ _ (eval (PySem.Expr.Name _ _) _) _ _ _); with_reducible ((k_here; k_dflt (refine' nameX_L ?F ?v ?_ ?a ?b; (case F => k_asm); (case a => rfl); (case b => rfl); (case v => first | with_reducible assumption | rfl | assumption); k_whole)))) | walk1) | (dsimp only; (first | ((with_reducible show wpAny _ _ (loadName _ _) _ _ _); with_reducible ((k_here; k_dflt (refine' loadX_Lm ?F ?v ?_ ?a ?b; (case F => k_asm); (case a => rfl); (case b => rfl); (case v => first | with_reducible assumption | rfl | assumption); k_whole)))) | ((with_reducible show wpAny _ _ (eval (PySem.Expr.Name _ _) _) _ _ _); with_reducible ((k_here; k_dflt (refine' nameX_L ?F ?v ?_ ?a ?b; (case F => k_asm); (case a => rfl); (case b => rfl); (case v => first | with_reducible assumption | rfl | assumption); k_whole)))) | walk1)) | (leave1; walk_say "STEP leave1"; try dsimp only) | fail "no step")
  exact hret _ _ _ _ F2 N2
set_option maxHeartbeats 8000000 in
theorem bal_no {w : World} {A₀ : Around} {base g : Heap} {outer0 : List Env} {L0 L1 a0 : Addr} {mg mb : Str → Option Value} {s : Shared} {Q : Flow → Shared → Prop} {E : Value → Shared → Prop} {p : Program} {loose : List Str} {mean : ExcName → Option Value} {cn0 nm : Str} {cs0 : Scope} {ccd0 : Value} {cl0 : List (Str × Addr)} {gd : Option (List Code)} {sc : Scope} {m : Str → Option Value} {led : List (Addr × Obj)} {S : List Stmt} {la ba : Addr} {v : Value} {xs ys : List Value} {xn yn : Nat}
    (hP : balNo = some (sc, S)) (B1 : Below A₀ base (envX cn0 cs0 L0 a0 ccd0 cl0 :: outer0) g) (F0 : Fr g L1 s.heap m) (X1 : (Mine.KL w.params).In g) (T1 : Top p loose mean mg mb g) (N0 : News g L1 s.heap ((la, listOf (xs ++ [v]).toArray xn) :: (ba, listOf ys.toArray yn) :: led)) (hl : m (Str.ofString "left") = some (.ref la)) (hb : m (Str.ofString "ballot") = some (.ref ba)) (hlb : la ≠ ba) (off : ∀ q ∈ led, q.1 ≠ la ∧ q.1 ≠ ba) (hx : xs.length ≤ 4) (hy : ys.length ≤ 4)
    (hret : ∀ xn' yn' h' tk', Fr g L1 h' m → News g L1 h' ((la, listOf xs.toArray xn') :: (ba, listOf (v :: ys).toArray yn') :: led) → Q .next { s with heap := h', toks := tk' }) :
    wpAny (model PySem.Challenge.rw_st0010_01.row.prog w) ((ktrTop 500 500 gd cn0 cs0 L0 a0 ccd0 cl0 outer0).deeper (envOf nm sc L1 101 (.ref 100))) (execs S (envOf nm sc L1 101 (.ref 100))) Q E s := by
  obtain ⟨h0, g0, r9, k0, os0⟩ := s
  dsimp only at F0 N0 hret ⊢
  conv at hP => lhs; whnf
  injection hP with hP
  injection hP with hP1 hP2
  subst hP1 hP2
  revert X1; k_fill; intro X1
  repeat' ((fail_if_success (with_reducible show wpAny _ _ (newList _) _ _ _)); (fail_if_success (with_reducible show wpAny _ _ (call (Value.builtin "list.pop") _) _ _ _)); (fail_if_success (with_reducible show wpAny _ _ (call (Value.builtin "list.insert") _) _ _ _)); (fail_if_success (with_reducible show wpAny _ _ (call (Value.builtin "list") _) _ _ _)); (fail_if_success (with_reducible show wpAny _ _ (call (Value.type "list") _) _ _ _)); (fail_if_success (with_reducible show wpAny _ _ (pyIter _) _ _ _)); (fail_if_success (with_reducible show wpAny _ _ (exec (Stmt.For _ _ _ _ _) _) _ _ _)); (fail_if_success (with_reducible show LeaveK h₀ _ _ _ _ _ _)); first | (k_unfold; (try dsimp only)) | (k_end; wrow_close) | (first | ((with_reducible show wpAny _ _ (loadName _ _) _ _ _); with_reducible ((k_here; k_dflt (refine' loadX_Lm ?F ?v ?_ ?a ?b; (case F => k_asm); (case a => rfl); (case b => rfl); (case v => first | with_reducible assumption | rfl | assumption); k_whole)))) | ((with_reducible show wpAny _ _ (eval (PySem.Expr.Name _ _) _) _ _ _); with_reducible ((k_here; k_dflt (refine' nameX_L ?F ?v ?_ ?a ?b; (case F => k_asm); (case a => rfl); (case b => rfl); (case v => first | with_reducible assumption | rfl | assumption); k_whole)))) | walk1) | (dsimp only; (first | ((with_reducible show wpAny _ _ (loadName _ _) _ _ _); with_reducible ((k_here; k_dflt (refine' loadX_Lm ?F ?v ?_ ?a ?b; (case F => k_asm); (case a => rfl); (case b => rfl); (case v => first | with_reducible assumption | rfl | assumption); k_whole)))) | ((with_reducible show wpAny _ _ (eval (PySem.Expr.Name _ _) _) _ _ _); with_reducible ((k_here; k_dflt (refine' nameX_L ?F ?v ?_ ?a ?b; (case F => k_asm); (case a => rfl); (case b => rfl); (case v => first | with_reducible assumption | rfl | assumption); k_whole)))) | walk1)) | (leave1; walk_say "STEP leave1"; try dsimp only) | fail "no step")
  refine pop_snoc F0 N0 (.head fun p hp => ?_) (by omega) (fun h1 F1 N1 => ?_)
  · rcases List.mem_cons.mp hp with rfl | hp
    · exact Ne.symm hlb
    · exact (off p hp).1
  clear F0 N0
  dsimp only
  repeat' ((fail_if_success (with_reducible show wpAny _ _ (newList _) _ _ _)); (fail_if_success (with_reducible show wpAny _ _ (call (Value.builtin "list.pop") _) _ _ _)); (fail_if_success (with_reducible show wpAny _ _ (call (Value.builtin "list.insert") _) _ _ _)); (fail_if_success (with_reducible show wpAny _ _ (call (Value.builtin "list") _) _ _ _)); (fail_if_success (with_reducible show wpAny _ _ (call (Value.type "list") _) _ _ _)); (fail_if_success (with_reducible show wpAny _ _ (pyIter _) _ _ _)); (fail_if_success (with_reducible show wpAny _ _ (exec (Stmt.For _ _ _ _ _) _) _ _ _)); (fail_if_success (with_reducible show LeaveK h₀ _ _ _ _ _ _)); first | (k_unfold; (try dsimp only)) | (k_end; wrow_close) | (first | ((with_reducible show wpAny _ _ (loadName _ _) _ _ _); with_reducible ((k_here; k_dflt (refine' loadX_Lm ?F ?v ?_ ?a ?b; (case F => k_asm); (case a => rfl); (case b => rfl); (case v => first | with_reducible assumption | rfl | assumption); k_whole)))) | ((with_reducible show wpAny _ _ (eval (PySem.Expr.Name _ _) _) _ _ _); with_reducible ((k_here; k_dflt (refine' nameX_L ?F ?v ?_ ?a ?b; (case F => k_asm); (case a => rfl); (case b => rfl); (case v => first | with_reducible assumption | rfl | assumption); k_whole)))) | walk1) | (dsimp only; (first | ((with_reducible show wpAny _ _ (loadName _ _) _ _ _); with_reducible ((k_here; k_dflt (refine' loadX_Lm ?F ?v ?_ ?a ?b; (case F => k_asm); (case a => rfl); (case b => rfl); (case v => first | with_reducible assumption | rfl | assumption); k_whole)))) | ((with_reducible show wpAny _ _ (eval (PySem.Expr.Name _ _) _) _ _ _); with_reducible ((k_here; k_dflt (refine' nameX_L ?F ?v ?_ ?a ?b; (case F => k_asm); (case a => rfl); (case b => rfl); (case v => first | with_reducible assumption | rfl | assumption); k_whole)))) | walk1)) | (leave1; walk_say "STEP leave1"; try dsimp only) | fail "no step")
  refine kl_insert F1 N1 rfl rfl (.tail hlb (.head fun p hp => (off p hp).2)) (by rw [sizeLine_eq]; show ys.length ≤ _; omega) (fun h2 F2 N2 => ?_)
  clear F1 N1
  dsimp only
  repeat' ((fail_if_success (with_reducible show wpAny _ _ (newList _) _ _ _)); (fail_if_success (with_reducible show wpAny _ _ (call (Value.builtin "list.pop") _) _ _ _)); (fail_if_success (with_reducible show wpAny _ _ (call (Value.builtin "list.insert") _) _ _ _)); (fail_if_success (with_reducible show wpAny _ _ (call (Value.builtin "list") _) _ _ _)); (fail_if_success (with_reducible show wpAny _ _ (call (Value.type "list") _) _ _ _)); (fail_if_success (with_reducible show wpAny _ _ (pyIter _) _ _ _)); (fail_if_success (with_reducible show wpAny _ _ (exec (Stmt.For _ _ _ _ _) _) _ _ _)); (fail_if_success (with_reducible show LeaveK h₀ _ _ _ _ _ _)); first | (k_unfold; (try dsimp only)) | (k_end; wrow_close) | (first | ((with_reducible show wpAny _ _ (loadName _ _) _ _ _); with_reducible ((k_here; k_dflt (refine' loadX_Lm ?F ?v ?_ ?a ?b; (case F => k_asm); (case a => rfl); (case b => rfl); (case v => first | with_reducible assumption | rfl | assumption); k_whole)))) | ((with_reducible show wpAny _ _ (eval (PySem.Expr.Name _ _) _) _ _ _); with_reducible ((k_here; k_dflt (refine' nameX_L ?F ?v ?_ ?a ?b; (case F => k_asm); (case a => rfl); (case b => rfl); (case v => first | with_reducible assumption | rfl | assumption); k_whole)))) | walk1) | (dsimp only; (first | ((with_reducible show wpAny _ _ (loadName _ _) _ _ _); with_reducible ((k_here; k_dflt (refine' loadX_Lm ?F ?v ?_ ?a ?b; (case F => k_asm); (case a => rfl); (case b => rfl); (case v => first | with_reducible assumption | rfl | assumption); k_whole)))) | ((with_reducible show wpAny _ _ (eval (PySem.Expr.Name _ _) _) _ _ _); with_reducible ((k_here; k_dflt (refine' nameX_L ?F ?v ?_ ?a ?b; (case F => k_asm); (case a => rfl); (case b => rfl); (case v => first | with_reducible assumption | rfl | assumption); k_whole)))) | walk1)) | (leave1; walk_say "STEP leave1"; try dsimp only) | fail "no step")
  exact hret _ _ _ _ F2 N2
inductive Bst : Bool → List Value → List Value → List Value → List Value → Prop
  | yes {v : Value} {xs ys : List Value} : Bst true (v :: xs) ys xs (v :: ys)
  | no {v : Value} {xs ys : List Value} : Bst false (xs ++ [v]) ys xs (v :: ys)
theorem Bst.some {xs : List Value} (b : Bool) (ys : List Value) (h : 0 < xs.length) (bs : List Bool) : ∃ xs' ys', Bst b xs ys xs' ys' ∧ xs'.length + 1 = xs.length ∧ ys'.length = ys.length + 1 ∧ balGo (b :: bs) xs ys = balGo bs xs' ys' := by
  cases b with
  | true => cases xs with
    | nil => cases h
    | cons v xs => exact ⟨xs, v :: ys, .yes, rfl, rfl, rfl⟩
  | false =>
    obtain ⟨xs', v, rfl⟩ : ∃ l a, xs = l ++ [a] := ⟨xs.dropLast, xs.getLast (List.ne_nil_of_length_pos h), (List.dropLast_concat_getLast _).symm⟩
    refine ⟨xs', v :: ys, .no, by rw [List.length_append]; rfl, rfl, ?_⟩
    simp only [balGo, List.reverse_append, List.reverse_singleton, List.singleton_append, List.reverse_reverse]
set_option maxHeartbeats 8000000 in
theorem bal_turn {w : World} {A₀ : Around} {base g : Heap} {outer0 : List Env} {L0 L1 a0 : Addr} {mg mb : Str → Option Value} {s : Shared} {Q : Flow → Shared → Prop} {E : Value → Shared → Prop} {p : Program} {loose : List Str} {mean : ExcName → Option Value} {cn0 nm : Str} {cs0 : Scope} {ccd0 : Value} {cl0 : List (Str × Addr)} {gd : Option (List Code)} {sc : Scope} {m : Str → Option Value} {led : List (Addr × Obj)} {S : List Stmt} {la ba : Addr} {b : Int} {tb tk : Tok} {i : Nat} {xs ys xs' ys' : List Value} {xn yn : Nat}
    (hP : balBody = some (sc, S)) (B1 : Below A₀ base (envX cn0 cs0 L0 a0 ccd0 cl0 :: outer0) g) (F0 : Fr g L1 s.heap m) (X1 : (Mine.KL w.params).In g) (T1 : Top p loose mean mg mb g) (N0 : News g L1 s.heap ((la, listOf xs.toArray xn) :: (ba, listOf ys.toArray yn) :: led)) (hbi : m (Str.ofString "bits") = some (.int b tb)) (hk : m (Str.ofString "k") = some (.int (0 + (i : Int)) tk)) (hi : i < 4) (hl : m (Str.ofString "left") = some (.ref la)) (hb : m (Str.ofString "ballot") = some (.ref ba)) (hlb : la ≠ ba) (off : ∀ q ∈ led, q.1 ≠ la ∧ q.1 ≠ ba) (hx : xs'.length ≤ 4) (hy : ys.length ≤ 4) (hB : Bst (bit b i) xs ys xs' ys')
    (hret : ∀ xn' yn' h' tk', Fr g L1 h' m → News g L1 h' ((la, listOf xs'.toArray xn') :: (ba, listOf ys'.toArray yn') :: led) → Q .next { s with heap := h', toks := tk' }) :
    wpAny (model PySem.Challenge.rw_st0010_01.row.prog w) ((ktrTop 500 500 gd cn0 cs0 L0 a0 ccd0 cl0 outer0).deeper (envOf nm sc L1 101 (.ref 100))) (execs S (envOf nm sc L1 101 (.ref 100))) Q E s := by
  obtain ⟨h0, g0, r9, k0, os0⟩ := s
  dsimp only at F0 N0 hret ⊢
  conv at hP => lhs; whnf
  injection hP with hP
  injection hP with hP1 hP2
  subst hP1 hP2
  revert X1; k_fill; intro X1
  repeat' ((fail_if_success (with_reducible show wpAny _ _ (isTrue _ _ _) _ _ _)); (fail_if_success (with_reducible show LeaveK h₀ _ _ _ _ _ _)); first | (k_unfold; (try dsimp only)) | (k_end; wrow_close) | (first | ((with_reducible show wpAny _ _ (loadName _ _) _ _ _); with_reducible ((k_here; k_dflt (refine' loadX_Lm ?F ?v ?_ ?a ?b; (case F => k_asm); (case a => rfl); (case b => rfl); (case v => first | with_reducible assumption | rfl | assumption); k_whole)))) | ((with_reducible show wpAny _ _ (eval (PySem.Expr.Name _ _) _) _ _ _); with_reducible ((k_here; k_dflt (refine' nameX_L ?F ?v ?_ ?a ?b; (case F => k_asm); (case a => rfl); (case b => rfl); (case v => first | with_reducible assumption | rfl | assumption); k_whole)))) | walk1) | (dsimp only; (first | ((with_reducible show wpAny _ _ (loadName _ _) _ _ _); with_reducible ((k_here; k_dflt (refine' loadX_Lm ?F ?v ?_ ?a ?b; (case F => k_asm); (case a => rfl); (case b => rfl); (case v => first | with_reducible assumption | rfl | assumption); k_whole)))) | ((with_reducible show wpAny _ _ (eval (PySem.Expr.Name _ _) _) _ _ _); with_reducible ((k_here; k_dflt (refine' nameX_L ?F ?v ?_ ?a ?b; (case F => k_asm); (case a => rfl); (case b => rfl); (case v => first | with_reducible assumption | rfl | assumption); k_whole)))) | walk1)) | (leave1; walk_say "STEP leave1"; try dsimp only) | fail "no step")
  refine bal_test rfl B1 F0 X1 T1 N0 hbi hk hi fun tk' => ?_
  generalize hbb : bit b i = bb at hB ⊢
  cases hB with
  | yes =>
    repeat' ((fail_if_success (with_reducible show wpAny _ _ (isTrue _ _ _) _ _ _)); (fail_if_success (with_reducible show wpAny _ _ (execs (_ :: _) _) _ _ _)); (fail_if_success (with_reducible show LeaveK h₀ _ _ _ _ _ _)); first | (k_unfold; (try dsimp only)) | (k_end; wrow_close) | (first | ((with_reducible show wpAny _ _ (loadName _ _) _ _ _); with_reducible ((k_here; k_dflt (refine' loadX_Lm ?F ?v ?_ ?a ?b; (case F => k_asm); (case a => rfl); (case b => rfl); (case v => first | with_reducible assumption | rfl | assumption); k_whole)))) | ((with_reducible show wpAny _ _ (eval (PySem.Expr.Name _ _) _) _ _ _); with_reducible ((k_here; k_dflt (refine' nameX_L ?F ?v ?_ ?a ?b; (case F => k_asm); (case a => rfl); (case b => rfl); (case v => first | with_reducible assumption | rfl | assumption); k_whole)))) | walk1) | (dsimp only; (first | ((with_reducible show wpAny _ _ (loadName _ _) _ _ _); with_reducible ((k_here; k_dflt (refine' loadX_Lm ?F ?v ?_ ?a ?b; (case F => k_asm); (case a => rfl); (case b => rfl); (case v => first | with_reducible assumption | rfl | assumption); k_whole)))) | ((with_reducible show wpAny _ _ (eval (PySem.Expr.Name _ _) _) _ _ _); with_reducible ((k_here; k_dflt (refine' nameX_L ?F ?v ?_ ?a ?b; (case F => k_asm); (case a => rfl); (case b => rfl); (case v => first | with_reducible assumption | rfl | assumption); k_whole)))) | walk1)) | (leave1; walk_say "STEP leave1"; try dsimp only) | fail "no step")
    refine bal_yes rfl B1 F0 X1 T1 N0 hl hb hlb off hx hy fun xn' yn' h' tk' F2 N2 => ?_
    repeat' ((fail_if_success (with_reducible show wpAny _ _ (isTrue _ _ _) _ _ _)); (fail_if_success (with_reducible show wpAny _ _ (execs (_ :: _) _) _ _ _)); (fail_if_success (with_reducible show LeaveK h₀ _ _ _ _ _ _)); first | (k_unfold; (try dsimp only)) | (k_end; wrow_close) | (first | ((with_reducible show wpAny _ _ (loadName _ _) _ _ _); with_reducible ((k_here; k_dflt (refine' loadX_Lm ?F ?v ?_ ?a ?b; (case F => k_asm); (case a => rfl); (case b => rfl); (case v => first | with_reducible assumption | rfl | assumption); k_whole)))) | ((with_reducible show wpAny _ _ (eval (PySem.Expr.Name _ _) _) _ _ _); with_reducible ((k_here; k_dflt (refine' nameX_L ?F ?v ?_ ?a ?b; (case F => k_asm); (case a => rfl); (case b => rfl); (case v => first | with_reducible assumption | rfl | assumption); k_whole)))) | walk1) | (dsimp only; (first | ((with_reducible show wpAny _ _ (loadName _ _) _ _ _); with_reducible ((k_here; k_dflt (refine' loadX_Lm ?F ?v ?_ ?a ?b; (case F => k_asm); (case a => rfl); (case b => rfl); (case v => first | with_reducible assumption | rfl | assumption); k_whole)))) | ((with_reducible show wpAny _ _ (eval (PySem.Expr.Name _ _) _) _ _ _); with_reducible ((k_here; k_dflt (refine' nameX_L ?F ?v ?_ ?a ?b; (case F => k_asm); (case a => rfl); (case b => rfl); (case v => first | with_reducible assumption | rfl | assumption); k_whole)))) | walk1)) | (leave1; walk_say "STEP leave1"; try dsimp only) | fail "no step")
    exact hret _ _ _ _ F2 N2
  | no =>
    repeat' ((fail_if_success (with_reducible show wpAny _ _ (isTrue _ _ _) _ _ _)); (fail_if_success (with_reducible show wpAny _ _ (execs (_ :: _) _) _ _ _)); (fail_if_success (with_reducible show LeaveK h₀ _ _ _ _ _ _)); first | (k_unfold; (try dsimp only)) | (k_end; wrow_close) | (first | ((with_reducible show wpAny _ _ (loadName _ _) _ _ _); with_reducible ((k_here; k_dflt (refine' loadX_Lm ?F ?v ?_ ?a ?b; (case F => k_asm); (case a => rfl); (case b => rfl); (case v => first | with_reducible assumption | rfl | assumption); k_whole)))) | ((with_reducible show wpAny _ _ (eval (PySem.Expr.Name _ _) _) _ _ _); with_reducible ((k_here; k_dflt (refine' nameX_L ?F ?v ?_ ?a ?b; (case F => k_asm); (case a => rfl); (case b => rfl); (case v => first | with_reducible assumption | rfl | assumption); k_whole)))) | walk1) | (dsimp only; (first | ((with_reducible show wpAny _ _ (loadName _ _) _ _ _); with_reducible ((k_here; k_dflt (refine' loadX_Lm ?F ?v ?_ ?a ?b; (case F => k_asm); (case a => rfl); (case b => rfl); (case v => first | with_reducible assumption | rfl | assumption); k_whole)))) | ((with_reducible show wpAny _ _ (eval (PySem.Expr.Name _ _) _) _ _ _); with_reducible ((k_here; k_dflt (refine' nameX_L ?F ?v ?_ ?a ?b; (case F => k_asm); (case a => rfl); (case b => rfl); (case v => first | with_reducible assumption | rfl | assumption); k_whole)))) | walk1)) | (leave1; walk_say "STEP leave1"; try dsimp only) | fail "no step")
    refine bal_no rfl B1 F0 X1 T1 N0 hl hb hlb off hx hy fun xn' yn' h' tk' F2 N2 => ?_
    repeat' ((fail_if_success (with_reducible show wpAny _ _ (isTrue _ _ _) _ _ _)); (fail_if_success (with_reducible show wpAny _ _ (execs (_ :: _) _) _ _ _)); (fail_if_success (with_reducible show LeaveK h₀ _ _ _ _ _ _)); first | (k_unfold; (try dsimp only)) | (k_end; wrow_close) | (first | ((with_reducible show wpAny _ _ (loadName _ _) _ _ _); with_reducible ((k_here; k_dflt (refine' loadX_Lm ?F ?v ?_ ?a ?b; (case F => k_asm); (case a => rfl); (case b => rfl); (case v => first | with_reducible assumption | rfl | assumption); k_whole)))) | ((with_reducible show wpAny _ _ (eval (PySem.Expr.Name _ _) _) _ _ _); with_reducible ((k_here; k_dflt (refine' nameX_L ?F ?v ?_ ?a ?b; (case F => k_asm); (case a => rfl); (case b => rfl); (case v => first | with_reducible assumption | rfl | assumption); k_whole)))) | walk1) | (dsimp only; (first | ((with_reducible show wpAny _ _ (loadName _ _) _ _ _); with_reducible ((k_here; k_dflt (refine' loadX_Lm ?F ?v ?_ ?a ?b; (case F => k_asm); (case a => rfl); (case b => rfl); (case v => first | with_reducible assumption | rfl | assumption); k_whole)))) | ((with_reducible show wpAny _ _ (eval (PySem.Expr.Name _ _) _) _ _ _); with_reducible ((k_here; k_dflt (refine' nameX_L ?F ?v ?_ ?a ?b; (case F => k_asm); (case a => rfl); (case b => rfl); (case v => first | with_reducible assumption | rfl | assumption); k_whole)))) | walk1)) | (leave1; walk_say "STEP leave1"; try dsimp only) | fail "no step")
    exact hret _ _ _ _ F2 N2
noncomputable def bitsL (b : Int) : List Bool := [bit b 0, bit b (0 + 1), bit b (0 + 1 + 1), bit b (0 + 1 + 1 + 1)]
theorem bitsL_drop (b : Int) : ∀ i, i < 4 → (bitsL b).drop i = bit b i :: (bitsL b).drop (i + 1)
  | 0, _ => rfl
  | 1, _ => rfl
  | 2, _ => rfl
  | 3, _ => rfl
inductive BJ (la ba : Addr) (b : Int) (xs : List Value) (led : List (Addr × Obj)) : Nat → (Str → Option Value) → List (Addr × Obj) → Prop
  | mk {i : Nat} {m1 : Str → Option Value} {left acc : List Value} {ln an : Nat} {t : Tok} : m1 (Str.ofString "bits") = some (.int b t) → m1 (Str.ofString "left") = some (.ref la) → m1 (Str.ofString "ballot") = some (.ref ba) → balGo ((bitsL b).drop i) left acc = balL b xs → left.length + i = 4 → acc.length = i → BJ la ba b xs led i m1 ((la, listOf left.toArray ln) :: (ba, listOf acc.toArray an) :: led)
set_option maxHeartbeats 8000000 in
theorem bal_loop {w : World} {A₀ : Around} {base g : Heap} {outer0 : List Env} {L0 L1 a0 : Addr} {mg mb : Str → Option Value} {s : Shared} {Q : Flow → Shared → Prop} {E : Value → Shared → Prop} {p : Program} {loose : List Str} {mean : ExcName → Option Value} {cn0 nm : Str} {cs0 : Scope} {ccd0 : Value} {cl0 : List (Str × Addr)} {gd : Option (List Code)} {sc : Scope} {m : Str → Option Value} {led : List (Addr × Obj)} {S : List Stmt} {la ba rA : Addr} {b : Int} {tb : Tok} {xs : List Value} {xn yn : Nat} {tr1 tr2 tr3 : Tok}
    (hP : balBody = some (sc, S)) (B1 : Below A₀ base (envX cn0 cs0 L0 a0 ccd0 cl0 :: outer0) g) (F0 : Fr g L1 s.heap m) (X1 : (Mine.KL w.params).In g) (T1 : Top p loose mean mg mb g) (N0 : News g L1 s.heap ((la, listOf xs.toArray xn) :: (ba, listOf #[] yn) :: led)) (hrg : IsRange s.heap rA 0 4 1 tr1 tr2 tr3) (hbi : m (Str.ofString "bits") = some (.int b tb)) (hl : m (Str.ofString "left") = some (.ref la)) (hb : m (Str.ofString "ballot") = some (.ref ba)) (hlb : la ≠ ba) (off : ∀ q ∈ led, q.1 ≠ la ∧ q.1 ≠ ba) (hx : xs.length = 4)
    (hret : ∀ m' xn' yn' left h' tk', m' (Str.ofString "ballot") = some (.ref ba) → Fr g L1 h' m' → News g L1 h' ((la, listOf left xn') :: (ba, listOf (balL b xs).toArray yn') :: led) → Q .next { s with heap := h', toks := tk' }) :
    wpAny (model PySem.Challenge.rw_st0010_01.row.prog w) ((ktrTop 500 500 gd cn0 cs0 L0 a0 ccd0 cl0 outer0).deeper (envOf nm sc L1 101 (.ref 100))) (pyIter (.ref rA)) (fun it s₂ => LoopAtV PySem.Challenge.rw_st0010_01.row.prog w ((ktrTop 500 500 gd cn0 cs0 L0 a0 ccd0 cl0 outer0).deeper (envOf nm sc L1 101 (.ref 100))) g (envOf nm sc L1 101 (.ref 100)) (Str.ofString "k") S Q E it s₂) E s := by
  have lla : @LT.lt Nat _ la s.heap.objs.size := Heap.lt_size (N0 _ (.head _)).1
  have lba : @LT.lt Nat _ ba s.heap.objs.size := Heap.lt_size (N0 _ (.tail _ (.head _))).1
  have lled : ∀ q ∈ led, @LT.lt Nat _ q.1 s.heap.objs.size := fun q hq => Heap.lt_size (N0 q (.tail _ (.tail _ hq))).1
  refine for_range (n := 4) rfl F0 N0 hrg (by rfl) (by rfl) (BJ la ba b xs led) (.mk (acc := []) hbi hl hb rfl (by omega) rfl) ?_ ?_
  · rintro i t m₁ news₁ h tk own Q' hi hJ hown _ F1 N1 hk
    cases hJ with
    | @mk left acc ln an t1 h1 h2 h3 h4 h5 h6 =>
    obtain ⟨left', acc', hB, e1, e2, e3⟩ := Bst.some (bit b i) acc (xs := left) (by omega) ((bitsL b).drop (i + 1))
    rw [bitsL_drop b i hi, e3] at h4
    refine bal_turn (led := led ++ own) (xn := ln) (yn := an) hP B1 F1 X1 T1 (News.sub N1 fun q hq => ?_) ((if_neg (by decide)).trans h1) (if_pos rfl) hi ((if_neg (by decide)).trans h2) ((if_neg (by decide)).trans h3) hlb (fun q hq => ?_) (by omega) (by omega) hB (fun xn' yn' h' tk' F2 N2 => ?_)
    · rcases List.mem_cons.mp hq with rfl | hq
      · exact List.mem_append_right _ (.head _)
      rcases List.mem_cons.mp hq with rfl | hq
      · exact List.mem_append_right _ (.tail _ (.head _))
      rcases List.mem_append.mp hq with hq | hq
      · exact List.mem_append_right _ (.tail _ (.tail _ hq))
      · exact List.mem_append_left _ hq
    · rcases List.mem_append.mp hq with hq | hq
      · exact off q hq
      · rw [hown q hq]; exact ⟨Nat.ne_of_gt lla, Nat.ne_of_gt lba⟩
    · refine hk h' tk' _ ((la, listOf left'.toArray xn') :: (ba, listOf acc'.toArray yn') :: led) F2 (News.sub N2 fun q hq => ?_) (fun q hq => ?_) (.mk ((if_neg (by decide)).trans h1) ((if_neg (by decide)).trans h2) ((if_neg (by decide)).trans h3) h4 (by omega) (by omega))
      · rcases List.mem_append.mp hq with hq | hq
        · exact .tail _ (.tail _ (List.mem_append_right _ hq))
        rcases List.mem_cons.mp hq with rfl | hq
        · exact .head _
        rcases List.mem_cons.mp hq with rfl | hq
        · exact .tail _ (.head _)
        · exact .tail _ (.tail _ (List.mem_append_left _ hq))
      · rcases List.mem_cons.mp hq with rfl | hq
        · exact Nat.ne_of_lt lla
        rcases List.mem_cons.mp hq with rfl | hq
        · exact Nat.ne_of_lt lba
        · exact Nat.ne_of_lt (lled q hq)
  · intro h' tk m' news' F' N' hJ
    generalize hk5 : 4 = k5 at hJ
    cases hJ with
    | @mk left acc ln an t1 h1 h2 h3 h4 h5 h6 =>
      subst hk5
      have e : acc = balL b xs := h4
      rw [e] at N'
      exact hret _ _ _ _ h' tk h3 F' N'
set_option maxHeartbeats 8000000 in
theorem spec_ballot {w : World} {A₀ : Around} {base h₀ : Heap} {outer : List Env} {L a : Addr} {m mg mb : Str → Option Value} {s : Shared} {Q E : Value → Shared → Prop} {p : Program} {loose : List Str} {mean : ExcName → Option Value} {cn : Str} {cs : Scope} {ccd : Value} {cl : List (Str × Addr)} {gd : Option (List Code)}
    {nl : Addr} {n0 n1 n2 n3 : Int} {t0 t1 t2 t3 : Tok} {k : Nat}
    (B : Below A₀ base outer h₀) (F : Fr h₀ L s.heap m) (X : (Mine.KL w.params).In h₀) (N : News h₀ L s.heap [(nl, listOf #[.int n0 t0, .int n1 t1, .int n2 t2, .int n3 t3] k)]) (T : Top p loose mean mg mb h₀) (hk : cs.kind = .function) (b : Int) (tb : Tok)
    (hret : ∀ l n h' tk', Fr h₀ L h' m → News h₀ L h' [(l, listOf (balL b [.int n0 t0, .int n1 t1, .int n2 t2, .int n3 t3]).toArray n), (nl, listOf #[.int n0 t0, .int n1 t1, .int n2 t2, .int n3 t3] k)] → Keeps s.heap h' [(nl, listOf #[.int n0 t0, .int n1 t1, .int n2 t2, .int n3 t3] k)] → s.heap.objs.size ≤ l → Q (.ref l) { s with heap := h', toks := tk' }) :
    wpAny (model PySem.Challenge.rw_st0010_01.row.prog w) (ktrTop 500 500 gd cn cs L a ccd cl outer) (call (.ref 101) [.ref nl, .int b tb]) Q E s := by
  revert X; k_fill; intro X
  refine wpAny_call ?_
  refine' enter_K2 ?k1 ?k2 ?k3 ?k4 ?k5 ?kA ?kF ?kK ?k6 ?k7 ?k8 ?k9 ?kB ?_ ?c2 ?c3 ?c4 ?c5
  (case kA => exact rfl)
  (case kF => exact rfl)
  (case kK => assumption)
  (case k1 => k_asm)
  (case k2 => k_asm)
  (case k3 => k_asm)
  (case k4 => exact N)
  (case k5 => k_asm)
  (case k6 => k_is)
  (case k7 => k_is)
  (case k8 => exact Nat.le_of_ble_eq_true rfl)
  (case k9 => exact BindsTo.of_eq rfl)
  (case c5 => decide)
  (case kB => exact locs rfl)
  (case c2 => exact rfl)
  (case c3 => exact rfl)
  (case c4 => exact rfl)
  intro g1 L1 h1 FG F1 N1 B1 X1 T1 kp l1 hsz
  k_lt l1
  (try dsimp only)
  (try k_lift B1)
  repeat' ((fail_if_success (with_reducible show wpAny _ _ (newList _) _ _ _)); (fail_if_success (with_reducible show wpAny _ _ (exec (Stmt.For _ _ _ _ _) _) _ _ _)); (fail_if_success (with_reducible show wpAny _ _ (pyIter (Value.ref _)) _ _ _)); (fail_if_success (with_reducible show LeaveK h₀ _ _ _ _ _ _)); first | (k_unfold; (try dsimp only)) | (k_end; wrow_close) | (first | ((with_reducible show wpAny _ _ (loadName _ _) _ _ _); with_reducible ((k_here; k_dflt (refine' loadX_Lm ?F ?v ?_ ?a ?b; (case F => k_asm); (case a => rfl); (case b => rfl); (case v => first | with_reducible assumption | rfl | assumption); k_whole)))) | ((with_reducible show wpAny _ _ (eval (PySem.Expr.Name _ _) _) _ _ _); with_reducible ((k_here; k_dflt (refine' nameX_L ?F ?v ?_ ?a ?b; (case F => k_asm); (case a => rfl); (case b => rfl); (case v => first | with_reducible assumption | rfl | assumption); k_whole)))) | walk1) | (dsimp only; (first | ((with_reducible show wpAny _ _ (loadName _ _) _ _ _); with_reducible ((k_here; k_dflt (refine' loadX_Lm ?F ?v ?_ ?a ?b; (case F => k_asm); (case a => rfl); (case b => rfl); (case v => first | with_reducible assumption | rfl | assumption); k_whole)))) | ((with_reducible show wpAny _ _ (eval (PySem.Expr.Name _ _) _) _ _ _); with_reducible ((k_here; k_dflt (refine' nameX_L ?F ?v ?_ ?a ?b; (case F => k_asm); (case a => rfl); (case b => rfl); (case v => first | with_reducible assumption | rfl | assumption); k_whole)))) | walk1)) | (leave1; walk_say "STEP leave1"; try dsimp only) | fail "no step")
  refine newList_K2 (by assumption) (by assumption) (fun ba hA FA NA lA lA2 => ?_) (by size_fits)
  try clear N1
  try clear F1
  dsimp only
  repeat' ((fail_if_success (with_reducible show wpAny _ _ (newList _) _ _ _)); (fail_if_success (with_reducible show wpAny _ _ (exec (Stmt.For _ _ _ _ _) _) _ _ _)); (fail_if_success (with_reducible show wpAny _ _ (pyIter (Value.ref _)) _ _ _)); (fail_if_success (with_reducible show LeaveK h₀ _ _ _ _ _ _)); first | (k_unfold; (try dsimp only)) | (k_end; wrow_close) | (first | ((with_reducible show wpAny _ _ (loadName _ _) _ _ _); with_reducible ((k_here; k_dflt (refine' loadX_Lm ?F ?v ?_ ?a ?b; (case F => k_asm); (case a => rfl); (case b => rfl); (case v => first | with_reducible assumption | rfl | assumption); k_whole)))) | ((with_reducible show wpAny _ _ (eval (PySem.Expr.Name _ _) _) _ _ _); with_reducible ((k_here; k_dflt (refine' nameX_L ?F ?v ?_ ?a ?b; (case F => k_asm); (case a => rfl); (case b => rfl); (case v => first | with_reducible assumption | rfl | assumption); k_whole)))) | walk1) | (dsimp only; (first | ((with_reducible show wpAny _ _ (loadName _ _) _ _ _); with_reducible ((k_here; k_dflt (refine' loadX_Lm ?F ?v ?_ ?a ?b; (case F => k_asm); (case a => rfl); (case b => rfl); (case v => first | with_reducible assumption | rfl | assumption); k_whole)))) | ((with_reducible show wpAny _ _ (eval (PySem.Expr.Name _ _) _) _ _ _); with_reducible ((k_here; k_dflt (refine' nameX_L ?F ?v ?_ ?a ?b; (case F => k_asm); (case a => rfl); (case b => rfl); (case v => first | with_reducible assumption | rfl | assumption); k_whole)))) | walk1)) | (leave1; walk_say "STEP leave1"; try dsimp only) | fail "no step")
  rename Fr g1 _ _ _ => F4
  rename News g1 _ _ _ => N4
  refine For_invVF F4 (by rfl) (by rfl) ?_
  repeat' ((fail_if_success (with_reducible show wpAny _ _ (newList _) _ _ _)); (fail_if_success (with_reducible show wpAny _ _ (exec (Stmt.For _ _ _ _ _) _) _ _ _)); (fail_if_success (with_reducible show wpAny _ _ (pyIter (Value.ref _)) _ _ _)); (fail_if_success (with_reducible show LeaveK h₀ _ _ _ _ _ _)); first | (k_unfold; (try dsimp only)) | (k_end; wrow_close) | (first | ((with_reducible show wpAny _ _ (loadName _ _) _ _ _); with_reducible ((k_here; k_dflt (refine' loadX_Lm ?F ?v ?_ ?a ?b; (case F => k_asm); (case a => rfl); (case b => rfl); (case v => first | with_reducible assumption | rfl | assumption); k_whole)))) | ((with_reducible show wpAny _ _ (eval (PySem.Expr.Name _ _) _) _ _ _); with_reducible ((k_here; k_dflt (refine' nameX_L ?F ?v ?_ ?a ?b; (case F => k_asm); (case a => rfl); (case b => rfl); (case v => first | with_reducible assumption | rfl | assumption); k_whole)))) | walk1) | (dsimp only; (first | ((with_reducible show wpAny _ _ (loadName _ _) _ _ _); with_reducible ((k_here; k_dflt (refine' loadX_Lm ?F ?v ?_ ?a ?b; (case F => k_asm); (case a => rfl); (case b => rfl); (case v => first | with_reducible assumption | rfl | assumption); k_whole)))) | ((with_reducible show wpAny _ _ (eval (PySem.Expr.Name _ _) _) _ _ _); with_reducible ((k_here; k_dflt (refine' nameX_L ?F ?v ?_ ?a ?b; (case F => k_asm); (case a => rfl); (case b => rfl); (case v => first | with_reducible assumption | rfl | assumption); k_whole)))) | walk1)) | (leave1; walk_say "STEP leave1"; try dsimp only) | fail "no step")
  rename Fr g1 _ _ _ => F5
  rename News g1 _ _ _ => N5
  rename IsRange _ _ _ _ _ _ _ _ => hrg
  refine bal_loop (led := [(nl, listOf #[.int n0 t0, .int n1 t1, .int n2 t2, .int n3 t3] k)]) (xs := [.int n0 t0, .int n1 t1, .int n2 t2, .int n3 t3]) rfl B1 F5 X1 T1 (News.sub N5 (mem_cons' (.tail _ (.head _)) (mem_cons' (.head _) (mem_one (.tail _ (.tail _ (.head _))))))) hrg rfl rfl rfl (Nat.ne_of_lt (lA _ (.head _))) (fun q hq => ?_) rfl fun m5 xn5 yn5 left5 h5 tk5 hb5 F6 N6 => ?_
  · rw [List.mem_singleton.mp hq]
    exact ⟨Nat.ne_of_lt (by assumption), Nat.ne_of_lt (lA _ (.tail _ (.head _)))⟩
  clear F5 N5
  dsimp only
  repeat' ((fail_if_success (with_reducible show wpAny _ _ (newList _) _ _ _)); (fail_if_success (with_reducible show wpAny _ _ (exec (Stmt.For _ _ _ _ _) _) _ _ _)); (fail_if_success (with_reducible show wpAny _ _ (pyIter (Value.ref _)) _ _ _)); (fail_if_success (with_reducible show LeaveK h₀ _ _ _ _ _ _)); first | (k_unfold; (try dsimp only)) | (k_end; wrow_close) | (first | ((with_reducible show wpAny _ _ (loadName _ _) _ _ _); with_reducible ((k_here; k_dflt (refine' loadX_Lm ?F ?v ?_ ?a ?b; (case F => k_asm); (case a => rfl); (case b => rfl); (case v => first | with_reducible assumption | rfl | assumption); k_whole)))) | ((with_reducible show wpAny _ _ (eval (PySem.Expr.Name _ _) _) _ _ _); with_reducible ((k_here; k_dflt (refine' nameX_L ?F ?v ?_ ?a ?b; (case F => k_asm); (case a => rfl); (case b => rfl); (case v => first | with_reducible assumption | rfl | assumption); k_whole)))) | walk1) | (dsimp only; (first | ((with_reducible show wpAny _ _ (loadName _ _) _ _ _); with_reducible ((k_here; k_dflt (refine' loadX_Lm ?F ?v ?_ ?a ?b; (case F => k_asm); (case a => rfl); (case b => rfl); (case v => first | with_reducible assumption | rfl | assumption); k_whole)))) | ((with_reducible show wpAny _ _ (eval (PySem.Expr.Name _ _) _) _ _ _); with_reducible ((k_here; k_dflt (refine' nameX_L ?F ?v ?_ ?a ?b; (case F => k_asm); (case a => rfl); (case b => rfl); (case v => first | with_reducible assumption | rfl | assumption); k_whole)))) | walk1)) | (leave1; walk_say "STEP leave1"; try dsimp only) | fail "no step")
  refine leave_K F6 N6 kp ?_
  intro kF kN kK
  dsimp only
  exact hret ba yn5 _ _ kF (News.sub kN (mem_cons' (.tail _ (.head _)) (mem_one (.tail _ (.tail _ (.head _)))))) kK (by omega)
end
-- S6
noncomputable def nl (c : Nat) : Int := if c = 10 then 1 else 0
theorem nl_yes {c : Nat} (h : ((Str.mk #[c]) == Str.ofString "\n") = true) : nl c = 1 := by
  have e : Str.ofString "\n" = Str.mk #[10] := by decide +kernel
  rw [e] at h
  have := beq_iff_eq.mp h
  cases this; rfl
theorem nl_no {c : Nat} (h : ((Str.mk #[c]) == Str.ofString "\n") = false) : nl c = 0 := by
  have e : Str.ofString "\n" = Str.mk #[10] := by decide +kernel
  rw [e] at h
  unfold nl
  rw [if_neg]
  rintro rfl
  exact absurd rfl (beq_eq_false_iff_ne.mp h)
set_option maxHeartbeats 8000000 in
theorem spec_read {R : Result → Shared → Prop} {w : World} {A₀ : Around} {base h₀ : Heap} {outer : List Env} {L a : Addr} {m mg mb : Str → Option Value} {s : Shared} {p : Program} {loose : List Str} {mean : ExcName → Option Value} {cn : Str} {cs : Scope} {ccd : Value} {cl : List (Str × Addr)} {gd : Option (List Code)} {lx dl pb fn cc st ds sg ce pb2 : Addr} {k1 k2 k3 k4 k5 j1 j2 j3 j4 j5 j6 j7 tq : Tok} {qual : Str} {pm ctv : Value} {oc oce : Obj} {ocv : Array Value} {lamP : Arguments} {lamB : Expr} {lamS : Scope} {no : Int} {tno : Tok} {pbs : Array Value} {pn sn : Nat} {xs : List Value} {c : Nat} {tc : Tok}
    (B : Below A₀ base outer h₀) (F : Fr h₀ L s.heap m) (X : (Mine.KL w.params).In h₀) (N : News h₀ L s.heap [(lx, instObj 59 dl), (dl, lexE w k1 k2 k3 k4 k5 no tno st pb), (pb, listOf pbs pn), (fn, lamE qual lamP lamB lamS ce pm cc ctv), (cc, oc), (st, instObj 59 ds), (ds, strE w j1 j2 j3 j4 j5 j6 j7 pb2 fn), (sg, listOf (xs ++ [Value.str ⟨#[c]⟩ tc]).toArray sn), (ce, oce)]) (T : Top p loose mean mg mb h₀) (hk : cs.kind = .function) (ho : @LT.lt Nat _ ce sg ∧ @LT.lt Nat _ sg ds ∧ @LT.lt Nat _ ds st ∧ @LT.lt Nat _ st cc ∧ @LT.lt Nat _ cc fn ∧ @LT.lt Nat _ fn dl ∧ @LT.lt Nat _ dl lx ∧ @LT.lt Nat _ lx pb) (hoc : oc.data = .fields ocv) (hoq : ocv[1]? = some (.str qual tq)) (hce : oce.data = .cell (some (.ref sg))) (hlam : LamIs lamP lamB lamS) (C : CodeHd base 86 82) (hxs : xs.length ≤ 1000000)
    (hret : ∀ tno' sn' h' tk', Fr h₀ L h' m → News h₀ L h' [(lx, instObj 59 dl), (dl, lexE w k1 k2 k3 k4 k5 (no + nl c) tno' st pb), (pb, listOf pbs pn), (fn, lamE qual lamP lamB lamS ce pm cc ctv), (cc, oc), (st, instObj 59 ds), (ds, strE w j1 j2 j3 j4 j5 j6 j7 pb2 fn), (sg, listOf xs.toArray sn'), (ce, oce)] → Keeps s.heap h' [(lx, instObj 59 dl), (dl, lexE w k1 k2 k3 k4 k5 no tno st pb), (pb, listOf pbs pn), (fn, lamE qual lamP lamB lamS ce pm cc ctv), (cc, oc), (st, instObj 59 ds), (ds, strE w j1 j2 j3 j4 j5 j6 j7 pb2 fn), (sg, listOf (xs ++ [Value.str ⟨#[c]⟩ tc]).toArray sn), (ce, oce)] → R (.ok (.ret (.str ⟨#[c]⟩ tc))) { s with heap := h', toks := tk' }) :
    codeAny (model PySem.Challenge.rw_st0010_01.row.prog w) (ktrTop 600 600 gd cn cs L a ccd cl outer) (.call (.ref 42) ⟨[.ref lx], []⟩) R s := by
  obtain ⟨lamPos, hle⟩ := hlam; conv at hle => lhs; whnf
  injection hle with hle; injection hle with hl1 hl2 hl3 hl4; subst hl1 hl2 hl3 hl4
  revert X; k_fill; intro X
  k_dflt (first | ((refine' enter_K ?k1 ?k2 ?k3 ?k4 ?k5 ?kA ?kF ?kK ?k6 ?k7 ?k8 ?k9 ?kB ?_ ?c2 ?c3 ?c4 ?c5; (case kA => exact rfl); (case kF => exact rfl); (case kK => assumption); (case k1 => k_asm); (case k2 => k_asm); (case k3 => k_asm); (case k4 => k_asm); (case k5 => k_asm); (case k6 => k_is); (case k7 => k_is); (case k8 => exact Nat.le_of_ble_eq_true rfl); (case k9 => exact BindsTo.of_eq rfl); (case c5 => decide); (case kB => exact locs rfl); (case c2 => exact rfl); (case c3 => exact rfl); (case c4 => exact rfl); k_whole; intro g' L' h' FG' F' N' B' X' T' kp' l1; (try k_lt l1); (try dsimp only); (try k_lift B'); (try k_fold))))
  repeat' ((fail_if_success (with_reducible show LeaveK h₀ _ _ _ _ _ _)); first | (k_unfold; (try dsimp only)) | (k_end; wrow_close) | (first | ((with_reducible show wpAny _ _ (call (Value.builtin "list.pop") _) _ _ _); with_reducible ((k_here; (with_reducible show wpAny _ _ (call (Value.builtin _) [Value.ref _]) _ _ _); k_dflt (refine' pop_snoc ?F ?N ?U ?z ?_; (case F => k_asm); (case N => k_asm); (case U => k_upd); (case z => assumption)); (intro h' F' N'; (try dsimp only [List.nil_append, List.cons_append] at N'); (try k_sweep))))) | ((with_reducible show wpAny _ _ (truthy (Value.ref _)) _ _ _); with_reducible ((k_here; k_dflt (first | (refine' truthy_snoc ?N ?hm ?hz ?_; (case N => k_asm); (case hm => k_mem); (case hz => assumption)) | (refine' truthy_nil ?N ?hm ?_; (case N => k_asm); (case hm => k_mem)) | (refine' truthy_cons ?N ?hm ?hz ?_; (case N => k_asm); (case hm => k_mem); (case hz => assumption)))))) | walk1) | (dsimp only; (first | ((with_reducible show wpAny _ _ (call (Value.builtin "list.pop") _) _ _ _); with_reducible ((k_here; (with_reducible show wpAny _ _ (call (Value.builtin _) [Value.ref _]) _ _ _); k_dflt (refine' pop_snoc ?F ?N ?U ?z ?_; (case F => k_asm); (case N => k_asm); (case U => k_upd); (case z => assumption)); (intro h' F' N'; (try dsimp only [List.nil_append, List.cons_append] at N'); (try k_sweep))))) | ((with_reducible show wpAny _ _ (truthy (Value.ref _)) _ _ _); with_reducible ((k_here; k_dflt (first | (refine' truthy_snoc ?N ?hm ?hz ?_; (case N => k_asm); (case hm => k_mem); (case hz => assumption)) | (refine' truthy_nil ?N ?hm ?_; (case N => k_asm); (case hm => k_mem)) | (refine' truthy_cons ?N ?hm ?hz ?_; (case N => k_asm); (case hm => k_mem); (case hz => assumption)))))) | walk1)) | (leave1; walk_say "STEP leave1"; try dsimp only) | fail "no step")
  · dsimp only
    refine leave_K (by assumption) (by assumption) (by assumption) ?_
    intro kF kN kK
    have e9 := nl_yes (c := c) (by assumption)
    exact hret _ _ _ _ kF (by rw [e9]; exact kN) kK
  · dsimp only
    refine leave_K (by assumption) (by assumption) (by assumption) ?_
    intro kF kN kK
    have e9 := nl_no (c := c) (by assumption)
    exact hret _ _ _ _ kF (by rw [e9, Int.add_zero]; exact kN) kK
-- S8
theorem code_read {A : Around} {R : Result → Shared → Prop} {w : World} {A₀ : Around} {base h₀ : Heap} {outer : List Env} {L a : Addr} {m mg mb : Str → Option Value} {s : Shared} {p : Program} {loose : List Str} {mean : ExcName → Option Value} {cn : Str} {cs : Scope} {ccd : Value} {cl : List (Str × Addr)}  {lx dl pb fn cc st ds sg ce pb2 : Addr} {k1 k2 k3 k4 k5 j1 j2 j3 j4 j5 j6 j7 tq : Tok} {qual : Str} {pm ctv : Value} {oc oce : Obj} {ocv : Array Value} {lamP : Arguments} {lamB : Expr} {lamS : Scope} {no : Int} {tno : Tok} {pbs : Array Value} {pn sn : Nat} {xs : List Value} {c : Nat} {tc t0 : Tok} {it q : Addr}
    (B : Below A₀ base outer h₀) (F : Fr h₀ L s.heap m) (X : (Mine.KL w.params).In h₀) (N : News h₀ L s.heap [(lx, instObj 59 dl), (dl, lexE w k1 k2 k3 k4 k5 no tno st pb), (pb, listOf pbs pn), (fn, lamE qual lamP lamB lamS ce pm cc ctv), (cc, oc), (st, instObj 59 ds), (ds, strE w j1 j2 j3 j4 j5 j6 j7 pb2 fn), (sg, listOf (xs ++ [Value.str ⟨#[c]⟩ tc]).toArray sn), (ce, oce), (it, ciObj q (.str Str.empty t0)), (q, methodObj (.ref 42) (.ref lx))]) (T : Top p loose mean mg mb h₀) (hk : cs.kind = .function) (ho : @LT.lt Nat _ ce sg ∧ @LT.lt Nat _ sg ds ∧ @LT.lt Nat _ ds st ∧ @LT.lt Nat _ st cc ∧ @LT.lt Nat _ cc fn ∧ @LT.lt Nat _ fn dl ∧ @LT.lt Nat _ dl lx ∧ @LT.lt Nat _ lx pb) (hq : @LT.lt Nat _ pb q) (hit : @LT.lt Nat _ q it) (hoc : oc.data = .fields ocv) (hoq : ocv[1]? = some (.str qual tq)) (hce : oce.data = .cell (some (.ref sg))) (hlam : LamIs lamP lamB lamS) (C : CodeHd base 86 82) (hxs : xs.length ≤ 1000000)
    (hret : ∀ tno' sn' h' tk', Fr h₀ L h' m → News h₀ L h' [(lx, instObj 59 dl), (dl, lexE w k1 k2 k3 k4 k5 (no + nl c) tno' st pb), (pb, listOf pbs pn), (fn, lamE qual lamP lamB lamS ce pm cc ctv), (cc, oc), (st, instObj 59 ds), (ds, strE w j1 j2 j3 j4 j5 j6 j7 pb2 fn), (sg, listOf xs.toArray sn'), (ce, oce), (it, ciObj q (.str Str.empty t0)), (q, methodObj (.ref 42) (.ref lx))] → R (.ok (.ret (.str ⟨#[c]⟩ tc))) { s with heap := h', toks := tk' })
    (hA1 : A.handled = none) (hA2 : A.depth ≤ 600) (hA3 : A.frames = some (envX cn cs L a ccd cl :: outer)) (hA5 : A.units ≤ 600) :
    codeAny (model PySem.Challenge.rw_st0010_01.row.prog w) A (.call (.ref 42) ⟨[.ref lx], []⟩) R s := by
  have N1 : News h₀ L s.heap [(lx, instObj 59 dl), (dl, lexE w k1 k2 k3 k4 k5 no tno st pb), (pb, listOf pbs pn), (fn, lamE qual lamP lamB lamS ce pm cc ctv), (cc, oc), (st, instObj 59 ds), (ds, strE w j1 j2 j3 j4 j5 j6 j7 pb2 fn), (sg, listOf (xs ++ [Value.str ⟨#[c]⟩ tc]).toArray sn), (ce, oce)] := News.sub N fun p hp => List.mem_append_left [(it, ciObj q (.str Str.empty t0)), (q, methodObj (.ref 42) (.ref lx))] hp
  have N2 : News h₀ L s.heap [(it, ciObj q (.str Str.empty t0)), (q, methodObj (.ref 42) (.ref lx))] := News.sub N fun p hp => List.mem_append_right [(lx, instObj 59 dl), (dl, lexE w k1 k2 k3 k4 k5 no tno st pb), (pb, listOf pbs pn), (fn, lamE qual lamP lamB lamS ce pm cc ctv), (cc, oc), (st, instObj 59 ds), (ds, strE w j1 j2 j3 j4 j5 j6 j7 pb2 fn), (sg, listOf (xs ++ [Value.str ⟨#[c]⟩ tc]).toArray sn), (ce, oce)] hp
  refine codeAny_le (A' := ktrTop 600 600 A.guards cn cs L a ccd cl outer) (spec_read B F X N1 T hk ho hoc hoq hce hlam C hxs fun tno' sn' h' tk' F' N' K' => ?_) hA1 hA2 hA3 rfl hA5
  refine hret tno' sn' h' tk' F' ?_
  have N3 := Keeps.rest K' N2 (by
    intro r hr p hp
    simp only [List.mem_cons, List.not_mem_nil, or_false] at hr hp
    rcases hr with rfl | rfl <;> rcases hp with rfl | rfl | rfl | rfl | rfl | rfl | rfl | rfl | rfl <;> k_ne)
  exact fun p hp => (List.mem_append (s := [(lx, instObj 59 dl), (dl, lexE w k1 k2 k3 k4 k5 (no + nl c) tno' st pb), (pb, listOf pbs pn), (fn, lamE qual lamP lamB lamS ce pm cc ctv), (cc, oc), (st, instObj 59 ds), (ds, strE w j1 j2 j3 j4 j5 j6 j7 pb2 fn), (sg, listOf xs.toArray sn'), (ce, oce)]) (t := [(it, ciObj q (.str Str.empty t0)), (q, methodObj (.ref 42) (.ref lx))])).mp hp |>.elim (N' p) (N3 p)
theorem call_read {A : Around} {w : World} {A₀ : Around} {base h₀ : Heap} {outer : List Env} {L a : Addr} {m mg mb : Str → Option Value} {s : Shared} {Q E : Value → Shared → Prop} {p : Program} {loose : List Str} {mean : ExcName → Option Value} {cn : Str} {cs : Scope} {ccd : Value} {cl : List (Str × Addr)}  {lx dl pb fn cc st ds sg ce pb2 : Addr} {k1 k2 k3 k4 k5 j1 j2 j3 j4 j5 j6 j7 tq : Tok} {qual : Str} {pm ctv : Value} {oc oce : Obj} {ocv : Array Value} {lamP : Arguments} {lamB : Expr} {lamS : Scope} {no : Int} {tno : Tok} {pbs : Array Value} {pn sn : Nat} {xs : List Value} {c : Nat} {tc t0 : Tok} {it q : Addr}
    (B : Below A₀ base outer h₀) (F : Fr h₀ L s.heap m) (X : (Mine.KL w.params).In h₀) (N : News h₀ L s.heap [(lx, instObj 59 dl), (dl, lexE w k1 k2 k3 k4 k5 no tno st pb), (pb, listOf pbs pn), (fn, lamE qual lamP lamB lamS ce pm cc ctv), (cc, oc), (st, instObj 59 ds), (ds, strE w j1 j2 j3 j4 j5 j6 j7 pb2 fn), (sg, listOf (xs ++ [Value.str ⟨#[c]⟩ tc]).toArray sn), (ce, oce), (it, ciObj q (.str Str.empty t0)), (q, methodObj (.ref 42) (.ref lx))]) (T : Top p loose mean mg mb h₀) (hk : cs.kind = .function) (ho : @LT.lt Nat _ ce sg ∧ @LT.lt Nat _ sg ds ∧ @LT.lt Nat _ ds st ∧ @LT.lt Nat _ st cc ∧ @LT.lt Nat _ cc fn ∧ @LT.lt Nat _ fn dl ∧ @LT.lt Nat _ dl lx ∧ @LT.lt Nat _ lx pb) (hq : @LT.lt Nat _ pb q) (hit : @LT.lt Nat _ q it) (hoc : oc.data = .fields ocv) (hoq : ocv[1]? = some (.str qual tq)) (hce : oce.data = .cell (some (.ref sg))) (hlam : LamIs lamP lamB lamS) (C : CodeHd base 86 82) (hxs : xs.length ≤ 1000000)
    (hret : ∀ tno' sn' h' tk', Fr h₀ L h' m → News h₀ L h' [(lx, instObj 59 dl), (dl, lexE w k1 k2 k3 k4 k5 (no + nl c) tno' st pb), (pb, listOf pbs pn), (fn, lamE qual lamP lamB lamS ce pm cc ctv), (cc, oc), (st, instObj 59 ds), (ds, strE w j1 j2 j3 j4 j5 j6 j7 pb2 fn), (sg, listOf xs.toArray sn'), (ce, oce), (it, ciObj q (.str Str.empty t0)), (q, methodObj (.ref 42) (.ref lx))] → Q (.str ⟨#[c]⟩ tc) { s with heap := h', toks := tk' })
    (hA1 : A.handled = none) (hA2 : A.depth ≤ 600) (hA3 : A.frames = some (envX cn cs L a ccd cl :: outer)) (hA5 : A.units ≤ 600) :
    wpAny (model PySem.Challenge.rw_st0010_01.row.prog w) A (call (.ref 42) [.ref lx]) Q E s :=
  wpAny_call (code_read B F X N T hk ho hq hit hoc hoq hce hlam C hxs hret hA1 hA2 hA3 hA5)
theorem next_read {A : Around} {w : World} {A₀ : Around} {base h₀ : Heap} {outer : List Env} {L a : Addr} {m mg mb : Str → Option Value} {s : Shared} {Q : Option Value → Shared → Prop} {E : Value → Shared → Prop} {p : Program} {loose : List Str} {mean : ExcName → Option Value} {cn : Str} {cs : Scope} {ccd : Value} {cl : List (Str × Addr)}  {lx dl pb fn cc st ds sg ce pb2 : Addr} {k1 k2 k3 k4 k5 j1 j2 j3 j4 j5 j6 j7 tq : Tok} {qual : Str} {pm ctv : Value} {oc oce : Obj} {ocv : Array Value} {lamP : Arguments} {lamB : Expr} {lamS : Scope} {no : Int} {tno : Tok} {pbs : Array Value} {pn sn : Nat} {xs : List Value} {c : Nat} {tc t0 : Tok} {it q : Addr}
    (B : Below A₀ base outer h₀) (F : Fr h₀ L s.heap m) (X : (Mine.KL w.params).In h₀) (N : News h₀ L s.heap [(lx, instObj 59 dl), (dl, lexE w k1 k2 k3 k4 k5 no tno st pb), (pb, listOf pbs pn), (fn, lamE qual lamP lamB lamS ce pm cc ctv), (cc, oc), (st, instObj 59 ds), (ds, strE w j1 j2 j3 j4 j5 j6 j7 pb2 fn), (sg, listOf (xs ++ [Value.str ⟨#[c]⟩ tc]).toArray sn), (ce, oce), (it, ciObj q (.str Str.empty t0)), (q, methodObj (.ref 42) (.ref lx))]) (T : Top p loose mean mg mb h₀) (hk : cs.kind = .function) (ho : @LT.lt Nat _ ce sg ∧ @LT.lt Nat _ sg ds ∧ @LT.lt Nat _ ds st ∧ @LT.lt Nat _ st cc ∧ @LT.lt Nat _ cc fn ∧ @LT.lt Nat _ fn dl ∧ @LT.lt Nat _ dl lx ∧ @LT.lt Nat _ lx pb) (hq : @LT.lt Nat _ pb q) (hit : @LT.lt Nat _ q it) (hoc : oc.data = .fields ocv) (hoq : ocv[1]? = some (.str qual tq)) (hce : oce.data = .cell (some (.ref sg))) (hlam : LamIs lamP lamB lamS) (C : CodeHd base 86 82) (hxs : xs.length ≤ 1000000)
    (hret : ∀ tno' sn' h' tk', Fr h₀ L h' m → News h₀ L h' [(lx, instObj 59 dl), (dl, lexE w k1 k2 k3 k4 k5 (no + nl c) tno' st pb), (pb, listOf pbs pn), (fn, lamE qual lamP lamB lamS ce pm cc ctv), (cc, oc), (st, instObj 59 ds), (ds, strE w j1 j2 j3 j4 j5 j6 j7 pb2 fn), (sg, listOf xs.toArray sn'), (ce, oce), (it, ciObj q (.str Str.empty t0)), (q, methodObj (.ref 42) (.ref lx))] → Q (some (.str ⟨#[c]⟩ tc)) { s with heap := h', toks := tk' })
    (hA1 : A.handled = none) (hA2 : A.depth ≤ 600) (hA3 : A.frames = some (envX cn cs L a ccd cl :: outer)) (hA5 : A.units + 1 ≤ 600) :
    wpAny (model PySem.Challenge.rw_st0010_01.row.prog w) A (pyNext (.ref it)) Q E s := by
  revert X; k_fill; intro X
  have hfo : ∃ o fd, s.heap.get? 42 = some o ∧ o.data = .func fd := by
    refine ⟨_, _, (X.keeps F.keep) 42 _ (by k_is), rfl⟩
  obtain ⟨o, fd, hfo, hfd⟩ := hfo
  refine next_ci N (by k_mem) (by k_mem) (fd := fd) ⟨o, hfo, hfd⟩ ?_
  refine code_read B F X N T hk ho hq hit hoc hoq hce hlam C hxs (fun tno' sn' h' tk' F' N' => ⟨(N' (it, ciObj q (.str Str.empty t0)) (by k_mem)).1, c, tc, rfl, hret tno' sn' h' tk' F' N'⟩) hA1 hA2 hA3 hA5
-- T3
theorem frCast {h₀ h : Heap} {L : Addr} {m m' : Str → Option Value} (F : Fr h₀ L h m) (e : ∀ y, m y = m' y) : Fr h₀ L h m' := (funext e) ▸ F
noncomputable def ws (c : Nat) : Bool := c == 10 || c == 9 || c == 13 || c == 32
noncomputable def bareGo : List Nat → Bool → List Nat → Option (List Nat × List Nat)
  | [], _, _ => none
  | c :: r, true, tk => bareGo r false (tk ++ [c])
  | c :: r, false, tk => if ws c then some (tk, r) else if c = 92 then bareGo r true tk else bareGo r false (tk ++ [c])
noncomputable def quoteGo : List Nat → Bool → List Nat → Option (List Nat × List Nat)
  | [], _, _ => none
  | c :: r, true, tk => quoteGo r false (tk ++ [c])
  | c :: r, false, tk => if c = 34 then some (tk, r) else if c = 92 then quoteGo r true tk else quoteGo r false (tk ++ [c])
noncomputable def tokGo : List Nat → Option (List Nat × List Nat)
  | [] => none
  | c :: r => if ws c then tokGo r else if c = 34 then quoteGo r false [] else if c = 92 then bareGo r true [] else bareGo r false [c]
noncomputable def nls : List Nat → Int
  | [] => 0
  | c :: r => nl c + nls r
theorem ofs_ws : Str.ofString "\n\t\r " = Str.mk #[10, 9, 13, 32] := by decide +kernel
theorem ofs_34 : Str.ofString "\"" = Str.mk #[34] := by decide +kernel
theorem ofs_92 : Str.ofString "\\" = Str.mk #[92] := by decide +kernel
theorem occ_ws (c : Nat) : (Builtin.Str.occurrences (Str.ofString "\n\t\r ") ⟨#[c]⟩ 0 (Str.ofString "\n\t\r ").length 1).isEmpty = !ws c := by
  have h := StrLaws.found_one (Str.ofString "\n\t\r ") c
  rw [ofs_ws] at h ⊢
  rw [← Bool.not_not (List.isEmpty _), h]
  congr 1
  unfold ws
  simp
  try (cases h1 : (c == 10) <;> cases h2 : (c == 9) <;> cases h3 : (c == 13) <;> cases h4 : (c == 32) <;> simp_all)
theorem ws_yes {c : Nat} (h : (Builtin.Str.occurrences (Str.ofString "\n\t\r ") ⟨#[c]⟩ 0 (Str.ofString "\n\t\r ").length 1).isEmpty = false) : ws c = true := by
  rw [occ_ws] at h; simpa using h
theorem ws_no {c : Nat} (h : (Builtin.Str.occurrences (Str.ofString "\n\t\r ") ⟨#[c]⟩ 0 (Str.ofString "\n\t\r ").length 1).isEmpty = true) : ws c = false := by
  rw [occ_ws] at h; simpa using h
theorem is34 {c : Nat} (h : ((Str.mk #[c]) == Str.ofString "\"") = true) : c = 34 := by
  rw [ofs_34] at h
  have := beq_iff_eq.mp h
  cases this; rfl
theorem not34 {c : Nat} (h : ((Str.mk #[c]) == Str.ofString "\"") = false) : c ≠ 34 := by
  rw [ofs_34] at h
  rintro rfl
  exact absurd rfl (beq_eq_false_iff_ne.mp h)
theorem is92 {c : Nat} (h : ((Str.mk #[c]) == Str.ofString "\\") = true) : c = 92 := by
  rw [ofs_92] at h
  have := beq_iff_eq.mp h
  cases this; rfl
theorem not92 {c : Nat} (h : ((Str.mk #[c]) == Str.ofString "\\") = false) : c ≠ 92 := by
  rw [ofs_92] at h
  rintro rfl
  exact absurd rfl (beq_eq_false_iff_ne.mp h)
theorem str_app (tk : List Nat) (c : Nat) : (Str.mk tk.toArray) ++ (Str.mk #[c]) = Str.mk (tk ++ [c]).toArray := by
  show Str.mk (tk.toArray ++ #[c]) = _
  simp
theorem ofs_nil : Str.ofString "" = Str.mk ([] : List Nat).toArray := by decide +kernel
theorem emp_app (c : Nat) : (Str.ofString "") ++ (Str.mk #[c]) = Str.mk ([c] : List Nat).toArray := by
  rw [ofs_nil]
  show Str.mk (#[] ++ #[c]) = _
  simp
/-- the two inner loops of get_token, with the scope of the def -/
noncomputable def tokDef : Option (Scope × List Stmt) := match (PySem.Challenge.pw_st0010_01.main.body.drop 3 : List Stmt) with
  | Stmt.ClassDef _ _ _ (_ :: _ :: Stmt.FunctionDef _ _ b _ _ _ sc _ _ _ :: _) _ _ _ _ _ _ _ :: _ => some (sc, b)
  | _ => none
noncomputable def innerOf : Option (Scope × Stmt × Stmt) := match tokDef with
  | some (sc, _ :: _ :: _ :: Stmt.For _ _ [_, Stmt.If _ [q] [_, _, b] _] _ _ :: _) => some (sc, q, b)
  | _ => none
-- S10
set_option maxHeartbeats 8000000 in
theorem bare_loop {w : World} {A₀ : Around} {base g : Heap} {outer0 : List Env} {L0 L1 a0 : Addr} {mg mb : Str → Option Value} {s : Shared} {Q : Flow → Shared → Prop} {E : Value → Shared → Prop} {p : Program} {loose : List Str} {mean : ExcName → Option Value} {cn0 nm : Str} {cs0 : Scope} {ccd0 : Value} {cl0 : List (Str × Addr)} {gd : Option (List Code)} {lx dl pb fn cc st ds sg ce pb2 : Addr} {k1 k2 k3 k4 k5 j1 j2 j3 j4 j5 j6 j7 tq : Tok} {qual : Str} {pm ctv : Value} {oc oce : Obj} {ocv : Array Value} {lamP : Arguments} {lamB : Expr} {lamS : Scope}
    {it q : Addr} {t0 tt : Tok} {sc : Scope} {Sq Sb : Stmt} {no : Int} {tno : Tok} {pn sn : Nat} {us : List Value} {rs rest' tk tok : List Nat} {chv0 : Option Value}
    (hP : innerOf = some (sc, Sq, Sb)) (B1 : Below A₀ base (envX cn0 cs0 L0 a0 ccd0 cl0 :: outer0) g) (F0 : Fr g L1 s.heap (fun y => if y = Str.ofString "ch" then chv0 else if y = Str.ofString "fiter" then some (.ref it) else if y = Str.ofString "token" then some (.str ⟨tk.toArray⟩ tt) else if y = Str.ofString "self" then some (.ref lx) else none)) (X1 : (Mine.KL w.params).In g)
    (N0 : News g L1 s.heap [(lx, instObj 59 dl), (dl, lexE w k1 k2 k3 k4 k5 no tno st pb), (pb, listOf #[] pn), (fn, lamE qual lamP lamB lamS ce pm cc ctv), (cc, oc), (st, instObj 59 ds), (ds, strE w j1 j2 j3 j4 j5 j6 j7 pb2 fn), (sg, listOf us.toArray sn), (ce, oce), (it, ciObj q (.str Str.empty t0)), (q, methodObj (.ref 42) (.ref lx))]) (T1 : Top p loose mean mg mb g) (ho : @LT.lt Nat _ ce sg ∧ @LT.lt Nat _ sg ds ∧ @LT.lt Nat _ ds st ∧ @LT.lt Nat _ st cc ∧ @LT.lt Nat _ cc fn ∧ @LT.lt Nat _ fn dl ∧ @LT.lt Nat _ dl lx ∧ @LT.lt Nat _ lx pb) (hq : @LT.lt Nat _ pb q) (hit : @LT.lt Nat _ q it) (hoc : oc.data = .fields ocv) (hoq : ocv[1]? = some (.str qual tq)) (hce : oce.data = .cell (some (.ref sg))) (hlam : LamIs lamP lamB lamS) (C : CodeHd base 86 82)
    (hv : Signs us rs.reverse) (hlen : tk.length + rs.length ≤ 20000) (hgo : bareGo rs false tk = some (tok, rest'))
    (hret : ∀ t tno' t0' sn' us' h' tk' m', Signs us' rest'.reverse → Fr g L1 h' m' → News g L1 h' [(lx, instObj 59 dl), (dl, lexE w k1 k2 k3 k4 k5 (no + nls rs - nls rest') tno' st pb), (pb, listOf #[] pn), (fn, lamE qual lamP lamB lamS ce pm cc ctv), (cc, oc), (st, instObj 59 ds), (ds, strE w j1 j2 j3 j4 j5 j6 j7 pb2 fn), (sg, listOf us'.toArray sn'), (ce, oce), (it, ciObj q (.str Str.empty t0')), (q, methodObj (.ref 42) (.ref lx))] → Q (.ret (.str ⟨tok.toArray⟩ t)) { s with heap := h', toks := tk' }) :
    wpAny (model PySem.Challenge.rw_st0010_01.row.prog w) ((ktrTop 550 550 gd cn0 cs0 L0 a0 ccd0 cl0 outer0).deeper (envOf nm sc L1 49 (.ref 48))) (exec Sb (envOf nm sc L1 49 (.ref 48))) Q E s := by
  conv at hP => lhs; whnf
  injection hP with hP
  injection hP with hP1 hP2
  injection hP2 with hP2 hP3
  subst hP1 hP2 hP3
  revert X1; k_fill; intro X1
  refine wpAny_For ?_
  repeat' ((fail_if_success (with_reducible show wpAny _ _ (call (Value.ref 42) _) _ _ _)); (fail_if_success (with_reducible show ∃ _, _)); (fail_if_success (with_reducible show LeaveK h₀ _ _ _ _ _ _)); (fail_if_success (with_reducible show wpAny _ _ (exec (Stmt.For _ _ _ _ _) _) _ _ _)); first | (k_unfold; (try dsimp only)) | (k_end; wrow_close) | (first | ((with_reducible show wpAny _ _ (pyIter (Value.ref _)) _ _ _); with_reducible ((k_here; k_dflt (refine' pyIter_ci ?N ?q ?_; (case N => k_asm); (case q => k_mem))))) | ((with_reducible show wpAny _ _ (call (Value.builtin "iter") _) _ _ _); with_reducible ((k_here; k_dflt (refine' iter_K ?F ?N ?q ?_; (case F => k_asm); (case N => k_asm); (case q => k_mem)); (intro it' h' F' N' l1; (try k_lt l1); (try k_sweep))))) | ((with_reducible show wpAny _ _ (truthy (Value.ref _)) _ _ _); with_reducible ((k_here; k_dflt (first | (refine' truthy_snoc ?N ?hm ?hz ?_; (case N => k_asm); (case hm => k_mem); (case hz => assumption)) | (refine' truthy_nil ?N ?hm ?_; (case N => k_asm); (case hm => k_mem)) | (refine' truthy_cons ?N ?hm ?hz ?_; (case N => k_asm); (case hm => k_mem); (case hz => assumption)))))) | walk1) | (dsimp only; (first | ((with_reducible show wpAny _ _ (pyIter (Value.ref _)) _ _ _); with_reducible ((k_here; k_dflt (refine' pyIter_ci ?N ?q ?_; (case N => k_asm); (case q => k_mem))))) | ((with_reducible show wpAny _ _ (call (Value.builtin "iter") _) _ _ _); with_reducible ((k_here; k_dflt (refine' iter_K ?F ?N ?q ?_; (case F => k_asm); (case N => k_asm); (case q => k_mem)); (intro it' h' F' N' l1; (try k_lt l1); (try k_sweep))))) | ((with_reducible show wpAny _ _ (truthy (Value.ref _)) _ _ _); with_reducible ((k_here; k_dflt (first | (refine' truthy_snoc ?N ?hm ?hz ?_; (case N => k_asm); (case hm => k_mem); (case hz => assumption)) | (refine' truthy_nil ?N ?hm ?_; (case N => k_asm); (case hm => k_mem)) | (refine' truthy_cons ?N ?hm ?hz ?_; (case N => k_asm); (case hm => k_mem); (case hz => assumption)))))) | walk1)) | (leave1; walk_say "STEP leave1"; try dsimp only) | fail "no step")
  obtain ⟨I, hI⟩ : ∃ I : Nat → Shared → Prop, ∀ n s₁, I n s₁ ↔ (∃ (rs1 : List Nat) (us1 : List Value) (no1 : Int) (tno1 t0 : Tok) (sn1 : Nat) (h1 : Heap) (tk1 : Nat) (chv : Option Value) (tt1 : Tok) (tk2 : List Nat), s₁ = { s with heap := h1, toks := tk1 } ∧ rs1.length = n ∧ tk2.length + rs1.length ≤ 20000 ∧ Fr g L1 h1 (fun y => if y = Str.ofString "ch" then chv else if y = Str.ofString "fiter" then some (.ref it) else if y = Str.ofString "token" then some (.str ⟨tk2.toArray⟩ tt1) else if y = Str.ofString "self" then some (.ref lx) else none) ∧ News g L1 h1 [(lx, instObj 59 dl), (dl, lexE w k1 k2 k3 k4 k5 no1 tno1 st pb), (pb, listOf #[] pn), (fn, lamE qual lamP lamB lamS ce pm cc ctv), (cc, oc), (st, instObj 59 ds), (ds, strE w j1 j2 j3 j4 j5 j6 j7 pb2 fn), (sg, listOf us1.toArray sn1), (ce, oce), (it, ciObj q (.str Str.empty t0)), (q, methodObj (.ref 42) (.ref lx))] ∧ Signs us1 rs1.reverse ∧ bareGo rs1 false tk2 = some (tok, rest') ∧ no1 = no + nls rs - nls rs1) := ⟨_, fun _ _ => Iff.rfl⟩
  refine codeAny_forLoop (I := I) ?turn rs.length ?init
  case init => exact (hI _ _).mpr ⟨rs, us, no, tno, t0, sn, _, _, chv0, tt, tk, rfl, rfl, hlen, F0, N0, hv, hgo, by omega⟩
  rintro n s1 hI1
  obtain ⟨rs1, us1, no1, tno1, t01, sn1, h1, tk1, chv, tt1, tk2, rfl, hn, hrl, F3, N3, hS, hg, hno⟩ := (hI _ _).mp hI1
  clear hI1
  cases rs1 with
  | nil => cases hg
  | cons c r =>
    rw [List.reverse_cons] at hS
    obtain ⟨xs, tc, rfl, hS'⟩ := hS.snoc
    simp only [List.length_cons] at hrl hn
    have hxl : xs.length ≤ 1000000 := by
      have h9 := hS'.length
      simp only [List.length_reverse] at h9
      omega
    refine next_read B1 F3 X1 N3 T1 rfl ho hq hit hoc hoq hce hlam C hxl (fun tno' sn' h' tk' F4 N4 => ?_) rfl (Nat.le_of_ble_eq_true rfl) rfl (Nat.le_of_ble_eq_true rfl)
    have en : no1 + nl c = no + nls rs - nls r := by simp only [nls] at hno; omega
    rw [en] at N4
    clear N0 F0 F3 N3 en hS
    dsimp only
    refine wpAny_assign_Name ?_
    repeat' ((fail_if_success (with_reducible show wpAny _ _ (call (Value.ref 42) _) _ _ _)); (fail_if_success (with_reducible show ∃ _, _)); (fail_if_success (with_reducible show LeaveK h₀ _ _ _ _ _ _)); (fail_if_success (with_reducible show wpAny _ _ (exec (Stmt.For _ _ _ _ _) _) _ _ _)); first | (k_unfold; (try dsimp only)) | (k_end; wrow_close) | (first | ((with_reducible show wpAny _ _ (pyIter (Value.ref _)) _ _ _); with_reducible ((k_here; k_dflt (refine' pyIter_ci ?N ?q ?_; (case N => k_asm); (case q => k_mem))))) | ((with_reducible show wpAny _ _ (call (Value.builtin "iter") _) _ _ _); with_reducible ((k_here; k_dflt (refine' iter_K ?F ?N ?q ?_; (case F => k_asm); (case N => k_asm); (case q => k_mem)); (intro it' h' F' N' l1; (try k_lt l1); (try k_sweep))))) | ((with_reducible show wpAny _ _ (truthy (Value.ref _)) _ _ _); with_reducible ((k_here; k_dflt (first | (refine' truthy_snoc ?N ?hm ?hz ?_; (case N => k_asm); (case hm => k_mem); (case hz => assumption)) | (refine' truthy_nil ?N ?hm ?_; (case N => k_asm); (case hm => k_mem)) | (refine' truthy_cons ?N ?hm ?hz ?_; (case N => k_asm); (case hm => k_mem); (case hz => assumption)))))) | walk1) | (dsimp only; (first | ((with_reducible show wpAny _ _ (pyIter (Value.ref _)) _ _ _); with_reducible ((k_here; k_dflt (refine' pyIter_ci ?N ?q ?_; (case N => k_asm); (case q => k_mem))))) | ((with_reducible show wpAny _ _ (call (Value.builtin "iter") _) _ _ _); with_reducible ((k_here; k_dflt (refine' iter_K ?F ?N ?q ?_; (case F => k_asm); (case N => k_asm); (case q => k_mem)); (intro it' h' F' N' l1; (try k_lt l1); (try k_sweep))))) | ((with_reducible show wpAny _ _ (truthy (Value.ref _)) _ _ _); with_reducible ((k_here; k_dflt (first | (refine' truthy_snoc ?N ?hm ?hz ?_; (case N => k_asm); (case hm => k_mem); (case hz => assumption)) | (refine' truthy_nil ?N ?hm ?_; (case N => k_asm); (case hm => k_mem)) | (refine' truthy_cons ?N ?hm ?hz ?_; (case N => k_asm); (case hm => k_mem); (case hz => assumption)))))) | walk1)) | (leave1; walk_say "STEP leave1"; try dsimp only) | fail "no step")
    · rename Fr g L1 _ _ => F9
      rename News g L1 _ _ => N9
      have e9 := ws_no (c := c) (by assumption)
      have e8 := is92 (c := c) (by assumption)
      subst e8
      cases r with
      | nil => simp [bareGo, e9] at hg
      | cons d r' =>
        have hg9 : bareGo r' false (tk2 ++ [d]) = some (tok, rest') := by simpa [bareGo, e9] using hg
        rw [List.reverse_cons] at hS'
        obtain ⟨ys, td, rfl, hS2⟩ := hS'.snoc
        have hyl : ys.length ≤ 1000000 := by
          simp only [List.length_append, List.length_cons, List.length_nil] at hxl
          omega
        dsimp only
        refine call_read B1 F9 X1 N9 T1 rfl ho hq hit hoc hoq hce hlam C hyl (fun tno2 sn2 h2 tk2' F5 N5 => ?_) rfl (Nat.le_of_ble_eq_true rfl) rfl (Nat.le_of_ble_eq_true rfl)
        have en : no + nls rs - nls (d :: r') + nl d = no + nls rs - nls r' := by simp only [nls]; omega
        rw [en] at N5
        clear F9 N9 en hS'
        dsimp only
        repeat' ((fail_if_success (with_reducible show wpAny _ _ (call (Value.ref 42) _) _ _ _)); (fail_if_success (with_reducible show ∃ _, _)); (fail_if_success (with_reducible show LeaveK h₀ _ _ _ _ _ _)); (fail_if_success (with_reducible show wpAny _ _ (exec (Stmt.For _ _ _ _ _) _) _ _ _)); first | (k_unfold; (try dsimp only)) | (k_end; wrow_close) | (first | ((with_reducible show wpAny _ _ (pyIter (Value.ref _)) _ _ _); with_reducible ((k_here; k_dflt (refine' pyIter_ci ?N ?q ?_; (case N => k_asm); (case q => k_mem))))) | ((with_reducible show wpAny _ _ (call (Value.builtin "iter") _) _ _ _); with_reducible ((k_here; k_dflt (refine' iter_K ?F ?N ?q ?_; (case F => k_asm); (case N => k_asm); (case q => k_mem)); (intro it' h' F' N' l1; (try k_lt l1); (try k_sweep))))) | ((with_reducible show wpAny _ _ (truthy (Value.ref _)) _ _ _); with_reducible ((k_here; k_dflt (first | (refine' truthy_snoc ?N ?hm ?hz ?_; (case N => k_asm); (case hm => k_mem); (case hz => assumption)) | (refine' truthy_nil ?N ?hm ?_; (case N => k_asm); (case hm => k_mem)) | (refine' truthy_cons ?N ?hm ?hz ?_; (case N => k_asm); (case hm => k_mem); (case hz => assumption)))))) | walk1) | (dsimp only; (first | ((with_reducible show wpAny _ _ (pyIter (Value.ref _)) _ _ _); with_reducible ((k_here; k_dflt (refine' pyIter_ci ?N ?q ?_; (case N => k_asm); (case q => k_mem))))) | ((with_reducible show wpAny _ _ (call (Value.builtin "iter") _) _ _ _); with_reducible ((k_here; k_dflt (refine' iter_K ?F ?N ?q ?_; (case F => k_asm); (case N => k_asm); (case q => k_mem)); (intro it' h' F' N' l1; (try k_lt l1); (try k_sweep))))) | ((with_reducible show wpAny _ _ (truthy (Value.ref _)) _ _ _); with_reducible ((k_here; k_dflt (first | (refine' truthy_snoc ?N ?hm ?hz ?_; (case N => k_asm); (case hm => k_mem); (case hz => assumption)) | (refine' truthy_nil ?N ?hm ?_; (case N => k_asm); (case hm => k_mem)) | (refine' truthy_cons ?N ?hm ?hz ?_; (case N => k_asm); (case hm => k_mem); (case hz => assumption)))))) | walk1)) | (leave1; walk_say "STEP leave1"; try dsimp only) | fail "no step")
        rename Fr g L1 _ _ => F9
        rename News g L1 _ _ => N9
        dsimp only
        simp only [str_app] at F9
        exact ⟨r'.length, by (try simp only [List.length_cons] at hn); omega, (hI _ _).mpr ⟨r', ys, _, _, t01, _, _, _, some (.str ⟨#[d]⟩ td), _, tk2 ++ [d], rfl, rfl, by simp only [List.length_append, List.length_cons, List.length_nil] at hrl ⊢; omega, frCast F9 (by
          intro y
          by_cases e1 : y = Str.ofString "token"
          · subst e1; rfl
          · by_cases e2 : y = Str.ofString "ch"
            · subst e2; rfl
            · simp only [if_neg e1, if_neg e2]), N9, hS2, hg9, rfl⟩⟩
    · rename Fr g L1 _ _ => F9
      rename News g L1 _ _ => N9
      have hg9 : bareGo r false (tk2 ++ [c]) = some (tok, rest') := by
        have e9 := ws_no (c := c) (by assumption)
        have e8 := not92 (c := c) (by assumption)
        simpa [bareGo, e9, e8] using hg
      dsimp only
      simp only [str_app] at F9
      exact ⟨r.length, by (try simp only [List.length_cons] at hn); omega, (hI _ _).mpr ⟨r, xs, _, _, t01, _, _, _, some (.str ⟨#[c]⟩ tc), _, tk2 ++ [c], rfl, rfl, by simp only [List.length_append, List.length_cons, List.length_nil] at hrl ⊢; omega, frCast F9 (by
        intro y
        by_cases e1 : y = Str.ofString "token"
        · subst e1; rfl
        · by_cases e2 : y = Str.ofString "ch"
          · subst e2; rfl
          · simp only [if_neg e1, if_neg e2]), N9, hS', hg9, rfl⟩⟩
    · rename Fr g L1 _ _ => F9
      rename News g L1 _ _ => N9
      have e9 := ws_yes (c := c) (by assumption)
      simp only [bareGo, e9, if_true, Option.some.injEq, Prod.mk.injEq] at hg
      obtain ⟨e1, e2⟩ := hg
      subst e1 e2
      dsimp only
      exact hret _ _ _ _ _ _ _ _ hS' F9 N9
set_option maxHeartbeats 8000000 in
theorem quote_loop {w : World} {A₀ : Around} {base g : Heap} {outer0 : List Env} {L0 L1 a0 : Addr} {mg mb : Str → Option Value} {s : Shared} {Q : Flow → Shared → Prop} {E : Value → Shared → Prop} {p : Program} {loose : List Str} {mean : ExcName → Option Value} {cn0 nm : Str} {cs0 : Scope} {ccd0 : Value} {cl0 : List (Str × Addr)} {gd : Option (List Code)} {lx dl pb fn cc st ds sg ce pb2 : Addr} {k1 k2 k3 k4 k5 j1 j2 j3 j4 j5 j6 j7 tq : Tok} {qual : Str} {pm ctv : Value} {oc oce : Obj} {ocv : Array Value} {lamP : Arguments} {lamB : Expr} {lamS : Scope}
    {it q : Addr} {t0 tt : Tok} {sc : Scope} {Sq Sb : Stmt} {no : Int} {tno : Tok} {pn sn : Nat} {us : List Value} {rs rest' tk tok : List Nat} {chv0 : Option Value}
    (hP : innerOf = some (sc, Sq, Sb)) (B1 : Below A₀ base (envX cn0 cs0 L0 a0 ccd0 cl0 :: outer0) g) (F0 : Fr g L1 s.heap (fun y => if y = Str.ofString "ch" then chv0 else if y = Str.ofString "fiter" then some (.ref it) else if y = Str.ofString "token" then some (.str ⟨tk.toArray⟩ tt) else if y = Str.ofString "self" then some (.ref lx) else none)) (X1 : (Mine.KL w.params).In g)
    (N0 : News g L1 s.heap [(lx, instObj 59 dl), (dl, lexE w k1 k2 k3 k4 k5 no tno st pb), (pb, listOf #[] pn), (fn, lamE qual lamP lamB lamS ce pm cc ctv), (cc, oc), (st, instObj 59 ds), (ds, strE w j1 j2 j3 j4 j5 j6 j7 pb2 fn), (sg, listOf us.toArray sn), (ce, oce), (it, ciObj q (.str Str.empty t0)), (q, methodObj (.ref 42) (.ref lx))]) (T1 : Top p loose mean mg mb g) (ho : @LT.lt Nat _ ce sg ∧ @LT.lt Nat _ sg ds ∧ @LT.lt Nat _ ds st ∧ @LT.lt Nat _ st cc ∧ @LT.lt Nat _ cc fn ∧ @LT.lt Nat _ fn dl ∧ @LT.lt Nat _ dl lx ∧ @LT.lt Nat _ lx pb) (hq : @LT.lt Nat _ pb q) (hit : @LT.lt Nat _ q it) (hoc : oc.data = .fields ocv) (hoq : ocv[1]? = some (.str qual tq)) (hce : oce.data = .cell (some (.ref sg))) (hlam : LamIs lamP lamB lamS) (C : CodeHd base 86 82)
    (hv : Signs us rs.reverse) (hlen : tk.length + rs.length ≤ 20000) (hgo : quoteGo rs false tk = some (tok, rest'))
    (hret : ∀ t tno' t0' sn' us' h' tk' m', Signs us' rest'.reverse → Fr g L1 h' m' → News g L1 h' [(lx, instObj 59 dl), (dl, lexE w k1 k2 k3 k4 k5 (no + nls rs - nls rest') tno' st pb), (pb, listOf #[] pn), (fn, lamE qual lamP lamB lamS ce pm cc ctv), (cc, oc), (st, instObj 59 ds), (ds, strE w j1 j2 j3 j4 j5 j6 j7 pb2 fn), (sg, listOf us'.toArray sn'), (ce, oce), (it, ciObj q (.str Str.empty t0')), (q, methodObj (.ref 42) (.ref lx))] → Q (.ret (.str ⟨tok.toArray⟩ t)) { s with heap := h', toks := tk' }) :
    wpAny (model PySem.Challenge.rw_st0010_01.row.prog w) ((ktrTop 550 550 gd cn0 cs0 L0 a0 ccd0 cl0 outer0).deeper (envOf nm sc L1 49 (.ref 48))) (exec Sq (envOf nm sc L1 49 (.ref 48))) Q E s := by
  conv at hP => lhs; whnf
  injection hP with hP
  injection hP with hP1 hP2
  injection hP2 with hP2 hP3
  subst hP1 hP2 hP3
  revert X1; k_fill; intro X1
  refine wpAny_For ?_
  repeat' ((fail_if_success (with_reducible show wpAny _ _ (call (Value.ref 42) _) _ _ _)); (fail_if_success (with_reducible show ∃ _, _)); (fail_if_success (with_reducible show LeaveK h₀ _ _ _ _ _ _)); (fail_if_success (with_reducible show wpAny _ _ (exec (Stmt.For _ _ _ _ _) _) _ _ _)); first | (k_unfold; (try dsimp only)) | (k_end; wrow_close) | (first | ((with_reducible show wpAny _ _ (pyIter (Value.ref _)) _ _ _); with_reducible ((k_here; k_dflt (refine' pyIter_ci ?N ?q ?_; (case N => k_asm); (case q => k_mem))))) | ((with_reducible show wpAny _ _ (call (Value.builtin "iter") _) _ _ _); with_reducible ((k_here; k_dflt (refine' iter_K ?F ?N ?q ?_; (case F => k_asm); (case N => k_asm); (case q => k_mem)); (intro it' h' F' N' l1; (try k_lt l1); (try k_sweep))))) | ((with_reducible show wpAny _ _ (truthy (Value.ref _)) _ _ _); with_reducible ((k_here; k_dflt (first | (refine' truthy_snoc ?N ?hm ?hz ?_; (case N => k_asm); (case hm => k_mem); (case hz => assumption)) | (refine' truthy_nil ?N ?hm ?_; (case N => k_asm); (case hm => k_mem)) | (refine' truthy_cons ?N ?hm ?hz ?_; (case N => k_asm); (case hm => k_mem); (case hz => assumption)))))) | walk1) | (dsimp only; (first | ((with_reducible show wpAny _ _ (pyIter (Value.ref _)) _ _ _); with_reducible ((k_here; k_dflt (refine' pyIter_ci ?N ?q ?_; (case N => k_asm); (case q => k_mem))))) | ((with_reducible show wpAny _ _ (call (Value.builtin "iter") _) _ _ _); with_reducible ((k_here; k_dflt (refine' iter_K ?F ?N ?q ?_; (case F => k_asm); (case N => k_asm); (case q => k_mem)); (intro it' h' F' N' l1; (try k_lt l1); (try k_sweep))))) | ((with_reducible show wpAny _ _ (truthy (Value.ref _)) _ _ _); with_reducible ((k_here; k_dflt (first | (refine' truthy_snoc ?N ?hm ?hz ?_; (case N => k_asm); (case hm => k_mem); (case hz => assumption)) | (refine' truthy_nil ?N ?hm ?_; (case N => k_asm); (case hm => k_mem)) | (refine' truthy_cons ?N ?hm ?hz ?_; (case N => k_asm); (case hm => k_mem); (case hz => assumption)))))) | walk1)) | (leave1; walk_say "STEP leave1"; try dsimp only) | fail "no step")
  obtain ⟨I, hI⟩ : ∃ I : Nat → Shared → Prop, ∀ n s₁, I n s₁ ↔ (∃ (rs1 : List Nat) (us1 : List Value) (no1 : Int) (tno1 t0 : Tok) (sn1 : Nat) (h1 : Heap) (tk1 : Nat) (chv : Option Value) (tt1 : Tok) (tk2 : List Nat), s₁ = { s with heap := h1, toks := tk1 } ∧ rs1.length = n ∧ tk2.length + rs1.length ≤ 20000 ∧ Fr g L1 h1 (fun y => if y = Str.ofString "ch" then chv else if y = Str.ofString "fiter" then some (.ref it) else if y = Str.ofString "token" then some (.str ⟨tk2.toArray⟩ tt1) else if y = Str.ofString "self" then some (.ref lx) else none) ∧ News g L1 h1 [(lx, instObj 59 dl), (dl, lexE w k1 k2 k3 k4 k5 no1 tno1 st pb), (pb, listOf #[] pn), (fn, lamE qual lamP lamB lamS ce pm cc ctv), (cc, oc), (st, instObj 59 ds), (ds, strE w j1 j2 j3 j4 j5 j6 j7 pb2 fn), (sg, listOf us1.toArray sn1), (ce, oce), (it, ciObj q (.str Str.empty t0)), (q, methodObj (.ref 42) (.ref lx))] ∧ Signs us1 rs1.reverse ∧ quoteGo rs1 false tk2 = some (tok, rest') ∧ no1 = no + nls rs - nls rs1) := ⟨_, fun _ _ => Iff.rfl⟩
  refine codeAny_forLoop (I := I) ?turn rs.length ?init
  case init => exact (hI _ _).mpr ⟨rs, us, no, tno, t0, sn, _, _, chv0, tt, tk, rfl, rfl, hlen, F0, N0, hv, hgo, by omega⟩
  rintro n s1 hI1
  obtain ⟨rs1, us1, no1, tno1, t01, sn1, h1, tk1, chv, tt1, tk2, rfl, hn, hrl, F3, N3, hS, hg, hno⟩ := (hI _ _).mp hI1
  clear hI1
  cases rs1 with
  | nil => cases hg
  | cons c r =>
    rw [List.reverse_cons] at hS
    obtain ⟨xs, tc, rfl, hS'⟩ := hS.snoc
    simp only [List.length_cons] at hrl hn
    have hxl : xs.length ≤ 1000000 := by
      have h9 := hS'.length
      simp only [List.length_reverse] at h9
      omega
    refine next_read B1 F3 X1 N3 T1 rfl ho hq hit hoc hoq hce hlam C hxl (fun tno' sn' h' tk' F4 N4 => ?_) rfl (Nat.le_of_ble_eq_true rfl) rfl (Nat.le_of_ble_eq_true rfl)
    have en : no1 + nl c = no + nls rs - nls r := by simp only [nls] at hno; omega
    rw [en] at N4
    clear N0 F0 F3 N3 en hS
    dsimp only
    refine wpAny_assign_Name ?_
    repeat' ((fail_if_success (with_reducible show wpAny _ _ (call (Value.ref 42) _) _ _ _)); (fail_if_success (with_reducible show ∃ _, _)); (fail_if_success (with_reducible show LeaveK h₀ _ _ _ _ _ _)); (fail_if_success (with_reducible show wpAny _ _ (exec (Stmt.For _ _ _ _ _) _) _ _ _)); first | (k_unfold; (try dsimp only)) | (k_end; wrow_close) | (first | ((with_reducible show wpAny _ _ (pyIter (Value.ref _)) _ _ _); with_reducible ((k_here; k_dflt (refine' pyIter_ci ?N ?q ?_; (case N => k_asm); (case q => k_mem))))) | ((with_reducible show wpAny _ _ (call (Value.builtin "iter") _) _ _ _); with_reducible ((k_here; k_dflt (refine' iter_K ?F ?N ?q ?_; (case F => k_asm); (case N => k_asm); (case q => k_mem)); (intro it' h' F' N' l1; (try k_lt l1); (try k_sweep))))) | ((with_reducible show wpAny _ _ (truthy (Value.ref _)) _ _ _); with_reducible ((k_here; k_dflt (first | (refine' truthy_snoc ?N ?hm ?hz ?_; (case N => k_asm); (case hm => k_mem); (case hz => assumption)) | (refine' truthy_nil ?N ?hm ?_; (case N => k_asm); (case hm => k_mem)) | (refine' truthy_cons ?N ?hm ?hz ?_; (case N => k_asm); (case hm => k_mem); (case hz => assumption)))))) | walk1) | (dsimp only; (first | ((with_reducible show wpAny _ _ (pyIter (Value.ref _)) _ _ _); with_reducible ((k_here; k_dflt (refine' pyIter_ci ?N ?q ?_; (case N => k_asm); (case q => k_mem))))) | ((with_reducible show wpAny _ _ (call (Value.builtin "iter") _) _ _ _); with_reducible ((k_here; k_dflt (refine' iter_K ?F ?N ?q ?_; (case F => k_asm); (case N => k_asm); (case q => k_mem)); (intro it' h' F' N' l1; (try k_lt l1); (try k_sweep))))) | ((with_reducible show wpAny _ _ (truthy (Value.ref _)) _ _ _); with_reducible ((k_here; k_dflt (first | (refine' truthy_snoc ?N ?hm ?hz ?_; (case N => k_asm); (case hm => k_mem); (case hz => assumption)) | (refine' truthy_nil ?N ?hm ?_; (case N => k_asm); (case hm => k_mem)) | (refine' truthy_cons ?N ?hm ?hz ?_; (case N => k_asm); (case hm => k_mem); (case hz => assumption)))))) | walk1)) | (leave1; walk_say "STEP leave1"; try dsimp only) | fail "no step")
    rotate_left 1
    · rename Fr g L1 _ _ => F9
      rename News g L1 _ _ => N9
      have e9 := not34 (c := c) (by assumption)
      have e8 := is92 (c := c) (by assumption)
      subst e8
      cases r with
      | nil => simp [quoteGo, e9] at hg
      | cons d r' =>
        have hg9 : quoteGo r' false (tk2 ++ [d]) = some (tok, rest') := by simpa [quoteGo, e9] using hg
        rw [List.reverse_cons] at hS'
        obtain ⟨ys, td, rfl, hS2⟩ := hS'.snoc
        have hyl : ys.length ≤ 1000000 := by
          simp only [List.length_append, List.length_cons, List.length_nil] at hxl
          omega
        dsimp only
        refine call_read B1 F9 X1 N9 T1 rfl ho hq hit hoc hoq hce hlam C hyl (fun tno2 sn2 h2 tk2' F5 N5 => ?_) rfl (Nat.le_of_ble_eq_true rfl) rfl (Nat.le_of_ble_eq_true rfl)
        have en : no + nls rs - nls (d :: r') + nl d = no + nls rs - nls r' := by simp only [nls]; omega
        rw [en] at N5
        clear F9 N9 en hS'
        dsimp only
        repeat' ((fail_if_success (with_reducible show wpAny _ _ (call (Value.ref 42) _) _ _ _)); (fail_if_success (with_reducible show ∃ _, _)); (fail_if_success (with_reducible show LeaveK h₀ _ _ _ _ _ _)); (fail_if_success (with_reducible show wpAny _ _ (exec (Stmt.For _ _ _ _ _) _) _ _ _)); first | (k_unfold; (try dsimp only)) | (k_end; wrow_close) | (first | ((with_reducible show wpAny _ _ (pyIter (Value.ref _)) _ _ _); with_reducible ((k_here; k_dflt (refine' pyIter_ci ?N ?q ?_; (case N => k_asm); (case q => k_mem))))) | ((with_reducible show wpAny _ _ (call (Value.builtin "iter") _) _ _ _); with_reducible ((k_here; k_dflt (refine' iter_K ?F ?N ?q ?_; (case F => k_asm); (case N => k_asm); (case q => k_mem)); (intro it' h' F' N' l1; (try k_lt l1); (try k_sweep))))) | ((with_reducible show wpAny _ _ (truthy (Value.ref _)) _ _ _); with_reducible ((k_here; k_dflt (first | (refine' truthy_snoc ?N ?hm ?hz ?_; (case N => k_asm); (case hm => k_mem); (case hz => assumption)) | (refine' truthy_nil ?N ?hm ?_; (case N => k_asm); (case hm => k_mem)) | (refine' truthy_cons ?N ?hm ?hz ?_; (case N => k_asm); (case hm => k_mem); (case hz => assumption)))))) | walk1) | (dsimp only; (first | ((with_reducible show wpAny _ _ (pyIter (Value.ref _)) _ _ _); with_reducible ((k_here; k_dflt (refine' pyIter_ci ?N ?q ?_; (case N => k_asm); (case q => k_mem))))) | ((with_reducible show wpAny _ _ (call (Value.builtin "iter") _) _ _ _); with_reducible ((k_here; k_dflt (refine' iter_K ?F ?N ?q ?_; (case F => k_asm); (case N => k_asm); (case q => k_mem)); (intro it' h' F' N' l1; (try k_lt l1); (try k_sweep))))) | ((with_reducible show wpAny _ _ (truthy (Value.ref _)) _ _ _); with_reducible ((k_here; k_dflt (first | (refine' truthy_snoc ?N ?hm ?hz ?_; (case N => k_asm); (case hm => k_mem); (case hz => assumption)) | (refine' truthy_nil ?N ?hm ?_; (case N => k_asm); (case hm => k_mem)) | (refine' truthy_cons ?N ?hm ?hz ?_; (case N => k_asm); (case hm => k_mem); (case hz => assumption)))))) | walk1)) | (leave1; walk_say "STEP leave1"; try dsimp only) | fail "no step")
        rename Fr g L1 _ _ => F9
        rename News g L1 _ _ => N9
        dsimp only
        simp only [str_app] at F9
        exact ⟨r'.length, by (try simp only [List.length_cons] at hn); omega, (hI _ _).mpr ⟨r', ys, _, _, t01, _, _, _, some (.str ⟨#[d]⟩ td), _, tk2 ++ [d], rfl, rfl, by simp only [List.length_append, List.length_cons, List.length_nil] at hrl ⊢; omega, frCast F9 (by
          intro y
          by_cases e1 : y = Str.ofString "token"
          · subst e1; rfl
          · by_cases e2 : y = Str.ofString "ch"
            · subst e2; rfl
            · simp only [if_neg e1, if_neg e2]), N9, hS2, hg9, rfl⟩⟩
    · rename Fr g L1 _ _ => F9
      rename News g L1 _ _ => N9
      have hg9 : quoteGo r false (tk2 ++ [c]) = some (tok, rest') := by
        have e9 := not34 (c := c) (by assumption)
        have e8 := not92 (c := c) (by assumption)
        simpa [quoteGo, e9, e8] using hg
      dsimp only
      simp only [str_app] at F9
      exact ⟨r.length, by (try simp only [List.length_cons] at hn); omega, (hI _ _).mpr ⟨r, xs, _, _, t01, _, _, _, some (.str ⟨#[c]⟩ tc), _, tk2 ++ [c], rfl, rfl, by simp only [List.length_append, List.length_cons, List.length_nil] at hrl ⊢; omega, frCast F9 (by
        intro y
        by_cases e1 : y = Str.ofString "token"
        · subst e1; rfl
        · by_cases e2 : y = Str.ofString "ch"
          · subst e2; rfl
          · simp only [if_neg e1, if_neg e2]), N9, hS', hg9, rfl⟩⟩
    · rename Fr g L1 _ _ => F9
      rename News g L1 _ _ => N9
      have e9 := is34 (c := c) (by assumption)
      simp only [quoteGo, e9, if_true, Option.some.injEq, Prod.mk.injEq] at hg
      obtain ⟨e1, e2⟩ := hg
      subst e1 e2
      dsimp only
      exact hret _ _ _ _ _ _ _ _ hS' F9 N9
-- S9
set_option maxHeartbeats 8000000 in
theorem spec_tok {R : Result → Shared → Prop} {w : World} {A₀ : Around} {base h₀ : Heap} {outer : List Env} {L a : Addr} {m mg mb : Str → Option Value} {s : Shared} {p : Program} {loose : List Str} {mean : ExcName → Option Value} {cn : Str} {cs : Scope} {ccd : Value} {cl : List (Str × Addr)} {gd : Option (List Code)} {lx dl pb fn cc st ds sg ce pb2 : Addr} {k1 k2 k3 k4 k5 j1 j2 j3 j4 j5 j6 j7 tq : Tok} {qual : Str} {pm ctv : Value} {oc oce : Obj} {ocv : Array Value} {lamP : Arguments} {lamB : Expr} {lamS : Scope} {no : Int} {tno : Tok} {pn sn : Nat} {vs : List Value} {rest rest' tok : List Nat}
    (B : Below A₀ base outer h₀) (F : Fr h₀ L s.heap m) (X : (Mine.KL w.params).In h₀) (N : News h₀ L s.heap [(lx, instObj 59 dl), (dl, lexE w k1 k2 k3 k4 k5 no tno st pb), (pb, listOf #[] pn), (fn, lamE qual lamP lamB lamS ce pm cc ctv), (cc, oc), (st, instObj 59 ds), (ds, strE w j1 j2 j3 j4 j5 j6 j7 pb2 fn), (sg, listOf vs.toArray sn), (ce, oce)]) (T : Top p loose mean mg mb h₀) (hk : cs.kind = .function) (ho : @LT.lt Nat _ ce sg ∧ @LT.lt Nat _ sg ds ∧ @LT.lt Nat _ ds st ∧ @LT.lt Nat _ st cc ∧ @LT.lt Nat _ cc fn ∧ @LT.lt Nat _ fn dl ∧ @LT.lt Nat _ dl lx ∧ @LT.lt Nat _ lx pb) (hoc : oc.data = .fields ocv) (hoq : ocv[1]? = some (.str qual tq)) (hce : oce.data = .cell (some (.ref sg))) (hlam : LamIs lamP lamB lamS) (C : CodeHd base 86 82) (hv : Signs vs rest.reverse) (hlen : rest.length ≤ 10000) (hgo : tokGo rest = some (tok, rest'))
    (hret : ∀ t tno' sn' us' h' tk', Signs us' rest'.reverse → Fr h₀ L h' m → News h₀ L h' [(lx, instObj 59 dl), (dl, lexE w k1 k2 k3 k4 k5 (no + nls rest - nls rest') tno' st pb), (pb, listOf #[] pn), (fn, lamE qual lamP lamB lamS ce pm cc ctv), (cc, oc), (st, instObj 59 ds), (ds, strE w j1 j2 j3 j4 j5 j6 j7 pb2 fn), (sg, listOf us'.toArray sn'), (ce, oce)] → Keeps s.heap h' [(lx, instObj 59 dl), (dl, lexE w k1 k2 k3 k4 k5 no tno st pb), (pb, listOf #[] pn), (fn, lamE qual lamP lamB lamS ce pm cc ctv), (cc, oc), (st, instObj 59 ds), (ds, strE w j1 j2 j3 j4 j5 j6 j7 pb2 fn), (sg, listOf vs.toArray sn), (ce, oce)] → R (.ok (.ret (.str ⟨tok.toArray⟩ t))) { s with heap := h', toks := tk' }) :
    codeAny (model PySem.Challenge.rw_st0010_01.row.prog w) (ktrTop 550 550 gd cn cs L a ccd cl outer) (.call (.ref 49) ⟨[.ref lx], []⟩) R s := by
  revert X; k_fill; intro X
  refine' enter_K ?k1 ?k2 ?k3 ?k4 ?k5 ?kA ?kF ?kK ?k6 ?k7 ?k8 ?k9 ?kB ?_ ?c2 ?c3 ?c4 ?c5
  (case kA => exact rfl)
  (case kF => exact rfl)
  (case kK => assumption)
  (case k1 => k_asm)
  (case k2 => k_asm)
  (case k3 => k_asm)
  (case k4 => k_asm)
  (case k5 => k_asm)
  (case k6 => k_is)
  (case k7 => k_is)
  (case k8 => exact Nat.le_of_ble_eq_true rfl)
  (case k9 => exact BindsTo.of_eq rfl)
  (case c5 => decide)
  (case kB => exact locs rfl)
  (case c2 => exact rfl)
  (case c3 => exact rfl)
  (case c4 => exact rfl)
  intro g1 L1 h1 FG F1 N1 B1 X1 T1 kp l1
  k_lt l1
  (try dsimp only)
  (try k_lift B1)
  repeat' ((fail_if_success (with_reducible show wpAny _ _ (call (Value.ref 42) _) _ _ _)); (fail_if_success (with_reducible show ∃ _, _)); (fail_if_success (with_reducible show LeaveK h₀ _ _ _ _ _ _)); (fail_if_success (with_reducible show wpAny _ _ (exec (Stmt.For _ _ _ _ _) _) _ _ _)); first | (k_unfold; (try dsimp only)) | (k_end; wrow_close) | (first | ((with_reducible show wpAny _ _ (pyIter (Value.ref _)) _ _ _); with_reducible ((k_here; k_dflt (refine' pyIter_ci ?N ?q ?_; (case N => k_asm); (case q => k_mem))))) | ((with_reducible show wpAny _ _ (call (Value.builtin "iter") _) _ _ _); with_reducible ((k_here; k_dflt (refine' iter_K ?F ?N ?q ?_; (case F => k_asm); (case N => k_asm); (case q => k_mem)); (intro it _h1 F' N' li; (try k_lt li); (try k_sweep))))) | ((with_reducible show wpAny _ _ (truthy (Value.ref _)) _ _ _); with_reducible ((k_here; k_dflt (first | (refine' truthy_snoc ?N ?hm ?hz ?_; (case N => k_asm); (case hm => k_mem); (case hz => assumption)) | (refine' truthy_nil ?N ?hm ?_; (case N => k_asm); (case hm => k_mem)) | (refine' truthy_cons ?N ?hm ?hz ?_; (case N => k_asm); (case hm => k_mem); (case hz => assumption)))))) | walk1) | (dsimp only; (first | ((with_reducible show wpAny _ _ (pyIter (Value.ref _)) _ _ _); with_reducible ((k_here; k_dflt (refine' pyIter_ci ?N ?q ?_; (case N => k_asm); (case q => k_mem))))) | ((with_reducible show wpAny _ _ (call (Value.builtin "iter") _) _ _ _); with_reducible ((k_here; k_dflt (refine' iter_K ?F ?N ?q ?_; (case F => k_asm); (case N => k_asm); (case q => k_mem)); (intro it _h1 F' N' li; (try k_lt li); (try k_sweep))))) | ((with_reducible show wpAny _ _ (truthy (Value.ref _)) _ _ _); with_reducible ((k_here; k_dflt (first | (refine' truthy_snoc ?N ?hm ?hz ?_; (case N => k_asm); (case hm => k_mem); (case hz => assumption)) | (refine' truthy_nil ?N ?hm ?_; (case N => k_asm); (case hm => k_mem)) | (refine' truthy_cons ?N ?hm ?hz ?_; (case N => k_asm); (case hm => k_mem); (case hz => assumption)))))) | walk1)) | (leave1; walk_say "STEP leave1"; try dsimp only) | fail "no step")
  refine wpAny_For ?_
  repeat' ((fail_if_success (with_reducible show wpAny _ _ (call (Value.ref 42) _) _ _ _)); (fail_if_success (with_reducible show ∃ _, _)); (fail_if_success (with_reducible show LeaveK h₀ _ _ _ _ _ _)); (fail_if_success (with_reducible show wpAny _ _ (exec (Stmt.For _ _ _ _ _) _) _ _ _)); first | (k_unfold; (try dsimp only)) | (k_end; wrow_close) | (first | ((with_reducible show wpAny _ _ (pyIter (Value.ref _)) _ _ _); with_reducible ((k_here; k_dflt (refine' pyIter_ci ?N ?q ?_; (case N => k_asm); (case q => k_mem))))) | ((with_reducible show wpAny _ _ (call (Value.builtin "iter") _) _ _ _); with_reducible ((k_here; k_dflt (refine' iter_K ?F ?N ?q ?_; (case F => k_asm); (case N => k_asm); (case q => k_mem)); (intro it _h1 F' N' li; (try k_lt li); (try k_sweep))))) | ((with_reducible show wpAny _ _ (truthy (Value.ref _)) _ _ _); with_reducible ((k_here; k_dflt (first | (refine' truthy_snoc ?N ?hm ?hz ?_; (case N => k_asm); (case hm => k_mem); (case hz => assumption)) | (refine' truthy_nil ?N ?hm ?_; (case N => k_asm); (case hm => k_mem)) | (refine' truthy_cons ?N ?hm ?hz ?_; (case N => k_asm); (case hm => k_mem); (case hz => assumption)))))) | walk1) | (dsimp only; (first | ((with_reducible show wpAny _ _ (pyIter (Value.ref _)) _ _ _); with_reducible ((k_here; k_dflt (refine' pyIter_ci ?N ?q ?_; (case N => k_asm); (case q => k_mem))))) | ((with_reducible show wpAny _ _ (call (Value.builtin "iter") _) _ _ _); with_reducible ((k_here; k_dflt (refine' iter_K ?F ?N ?q ?_; (case F => k_asm); (case N => k_asm); (case q => k_mem)); (intro it _h1 F' N' li; (try k_lt li); (try k_sweep))))) | ((with_reducible show wpAny _ _ (truthy (Value.ref _)) _ _ _); with_reducible ((k_here; k_dflt (first | (refine' truthy_snoc ?N ?hm ?hz ?_; (case N => k_asm); (case hm => k_mem); (case hz => assumption)) | (refine' truthy_nil ?N ?hm ?_; (case N => k_asm); (case hm => k_mem)) | (refine' truthy_cons ?N ?hm ?hz ?_; (case N => k_asm); (case hm => k_mem); (case hz => assumption)))))) | walk1)) | (leave1; walk_say "STEP leave1"; try dsimp only) | fail "no step")
  rename_i _tk _h3 q _h2 lq hh F2 N2
  have hq : @LT.lt Nat _ pb q := by omega
  have hit : @LT.lt Nat _ q it := by omega
  obtain ⟨I, hI⟩ : ∃ I : Nat → Shared → Prop, ∀ n s₁, I n s₁ ↔ (∃ (rs : List Nat) (us : List Value) (no1 : Int) (tno1 t0 : Tok) (sn1 : Nat) (h1 : Heap) (tk1 : Nat) (chv : Option Value) (tt : Tok), s₁ = { s with heap := h1, toks := tk1 } ∧ rs.length = n ∧ rs.length ≤ 10000 ∧ Fr g1 L1 h1 (fun y => if y = Str.ofString "ch" then chv else if y = Str.ofString "fiter" then some (.ref it) else if y = Str.ofString "token" then some (.str (Str.ofString "") tt) else if y = Str.ofString "self" then some (.ref lx) else none) ∧ News g1 L1 h1 [(lx, instObj 59 dl), (dl, lexE w k1 k2 k3 k4 k5 no1 tno1 st pb), (pb, listOf #[] pn), (fn, lamE qual lamP lamB lamS ce pm cc ctv), (cc, oc), (st, instObj 59 ds), (ds, strE w j1 j2 j3 j4 j5 j6 j7 pb2 fn), (sg, listOf us.toArray sn1), (ce, oce), (it, ciObj q (.str Str.empty t0)), (q, methodObj (.ref 42) (.ref lx))] ∧ Signs us rs.reverse ∧ tokGo rs = some (tok, rest') ∧ no1 = no + nls rest - nls rs) := ⟨_, fun _ _ => Iff.rfl⟩
  refine codeAny_forLoop (I := I) ?turn rest.length ?init
  case init =>
    exact (hI _ _).mpr ⟨rest, vs, no, tno, _, sn, _, _, none, _, rfl, rfl, hlen, frCast F2 (by
      intro y
      by_cases e1 : y = Str.ofString "token"
      · subst e1; rfl
      · by_cases e2 : y = Str.ofString "fiter"
        · subst e2; rfl
        · by_cases e3 : y = Str.ofString "self"
          · subst e3; rfl
          · by_cases e4 : y = Str.ofString "ch"
            · subst e4; rfl
            · simp only [if_neg e1, if_neg e2, if_neg e3, if_neg e4]
              show (match y == Str.ofString "self" with | true => some (Value.ref lx) | false => none) = none
              rw [beq_eq_false_iff_ne.mpr e3]), News.sub N2 (mem_cons' (by k_mem) (mem_cons' (by k_mem) (mem_cons' (by k_mem) (mem_cons' (by k_mem) (mem_cons' (by k_mem) (mem_cons' (by k_mem) (mem_cons' (by k_mem) (mem_cons' (by k_mem) (mem_cons' (by k_mem) (mem_cons' (by k_mem) (mem_one (by k_mem)))))))))))), hv, hgo, by omega⟩
  rintro n s1 hI1
  obtain ⟨rs, us, no1, tno1, t0, sn1, h1, tk1, chv, tt, rfl, hn, hrl, F3, N3, hS, hg, hno⟩ := (hI _ _).mp hI1
  clear hI1
  cases rs with
  | nil => cases hg
  | cons c r =>
    rw [List.reverse_cons] at hS
    obtain ⟨xs, tc, rfl, hS'⟩ := hS.snoc
    simp only [List.length_cons] at hrl hn
    have hxl : xs.length ≤ 1000000 := by
      have h9 := hS'.length
      simp only [List.length_reverse] at h9
      omega
    refine next_read B1 F3 X1 N3 T1 rfl ho hq hit hoc hoq hce hlam C hxl (fun tno' sn' h' tk' F4 N4 => ?_) rfl (Nat.le_of_ble_eq_true rfl) rfl (Nat.le_of_ble_eq_true rfl)
    have en : no1 + nl c = no + nls rest - nls r := by simp only [nls] at hno; omega
    rw [en] at N4
    clear F2 N2 F3 N3 en hS
    dsimp only
    refine wpAny_assign_Name ?_
    repeat' ((fail_if_success (with_reducible show wpAny _ _ (call (Value.ref 42) _) _ _ _)); (fail_if_success (with_reducible show ∃ _, _)); (fail_if_success (with_reducible show LeaveK h₀ _ _ _ _ _ _)); (fail_if_success (with_reducible show wpAny _ _ (exec (Stmt.For _ _ _ _ _) _) _ _ _)); first | (k_unfold; (try dsimp only)) | (k_end; wrow_close) | (first | ((with_reducible show wpAny _ _ (pyIter (Value.ref _)) _ _ _); with_reducible ((k_here; k_dflt (refine' pyIter_ci ?N ?q ?_; (case N => k_asm); (case q => k_mem))))) | ((with_reducible show wpAny _ _ (call (Value.builtin "iter") _) _ _ _); with_reducible ((k_here; k_dflt (refine' iter_K ?F ?N ?q ?_; (case F => k_asm); (case N => k_asm); (case q => k_mem)); (intro it _h1 F' N' li; (try k_lt li); (try k_sweep))))) | ((with_reducible show wpAny _ _ (truthy (Value.ref _)) _ _ _); with_reducible ((k_here; k_dflt (first | (refine' truthy_snoc ?N ?hm ?hz ?_; (case N => k_asm); (case hm => k_mem); (case hz => assumption)) | (refine' truthy_nil ?N ?hm ?_; (case N => k_asm); (case hm => k_mem)) | (refine' truthy_cons ?N ?hm ?hz ?_; (case N => k_asm); (case hm => k_mem); (case hz => assumption)))))) | walk1) | (dsimp only; (first | ((with_reducible show wpAny _ _ (pyIter (Value.ref _)) _ _ _); with_reducible ((k_here; k_dflt (refine' pyIter_ci ?N ?q ?_; (case N => k_asm); (case q => k_mem))))) | ((with_reducible show wpAny _ _ (call (Value.builtin "iter") _) _ _ _); with_reducible ((k_here; k_dflt (refine' iter_K ?F ?N ?q ?_; (case F => k_asm); (case N => k_asm); (case q => k_mem)); (intro it _h1 F' N' li; (try k_lt li); (try k_sweep))))) | ((with_reducible show wpAny _ _ (truthy (Value.ref _)) _ _ _); with_reducible ((k_here; k_dflt (first | (refine' truthy_snoc ?N ?hm ?hz ?_; (case N => k_asm); (case hm => k_mem); (case hz => assumption)) | (refine' truthy_nil ?N ?hm ?_; (case N => k_asm); (case hm => k_mem)) | (refine' truthy_cons ?N ?hm ?hz ?_; (case N => k_asm); (case hm => k_mem); (case hz => assumption)))))) | walk1)) | (leave1; walk_say "STEP leave1"; try dsimp only) | fail "no step")
    · rename Fr g1 L1 _ _ => F9
      rename News g1 L1 _ _ => N9
      have e9 := ws_no (c := c) (by assumption)
      have e8 := is34 (c := c) (by assumption)
      subst e8
      have hg9 : quoteGo r false [] = some (tok, rest') := by simpa [tokGo, e9] using hg
      refine quote_loop rfl B1 (frCast F9 (m' := (fun y => if y = Str.ofString "ch" then some (.str ⟨#[34]⟩ tc) else if y = Str.ofString "fiter" then some (.ref it) else if y = Str.ofString "token" then some (.str ⟨([] : List Nat).toArray⟩ tt) else if y = Str.ofString "self" then some (.ref lx) else none)) (by
        intro y
        by_cases e1 : y = Str.ofString "token"
        · subst e1; rfl
        · by_cases e2 : y = Str.ofString "ch"
          · subst e2; rfl
          · simp only [if_neg e1, if_neg e2])) X1 N9 T1 ho hq hit hoc hoq hce hlam C hS' (by simp only [List.length_nil]; omega) hg9 (fun t tno' t0' sn' us' h' tk' m' hS9 F8 N8 => ?_)
      dsimp only
      refine leave_K F8 N8 kp ?_
      intro kF kN kK
      have e5 : no + nls rest - nls r + nls r - nls rest' = no + nls rest - nls rest' := by omega
      rw [e5] at kN
      exact hret _ _ _ _ _ _ hS9 kF (News.sub kN (mem_cons' (by k_mem) (mem_cons' (by k_mem) (mem_cons' (by k_mem) (mem_cons' (by k_mem) (mem_cons' (by k_mem) (mem_cons' (by k_mem) (mem_cons' (by k_mem) (mem_cons' (by k_mem) (mem_one (by k_mem))))))))))) kK
    · rename Fr g1 L1 _ _ => F9
      rename News g1 L1 _ _ => N9
      have e9 := ws_no (c := c) (by assumption)
      have e8 := is92 (c := c) (by assumption)
      subst e8
      cases r with
      | nil => simp [tokGo, bareGo, e9] at hg
      | cons d r' =>
        have hg9 : bareGo r' false [d] = some (tok, rest') := by simpa [tokGo, bareGo, e9] using hg
        rw [List.reverse_cons] at hS'
        obtain ⟨ys, td, rfl, hS2⟩ := hS'.snoc
        have hyl : ys.length ≤ 1000000 := by
          simp only [List.length_append, List.length_cons, List.length_nil] at hxl
          omega
        dsimp only
        refine call_read B1 F9 X1 N9 T1 rfl ho hq hit hoc hoq hce hlam C hyl (fun tno2 sn2 h2 tk2' F5 N5 => ?_) rfl (Nat.le_of_ble_eq_true rfl) rfl (Nat.le_of_ble_eq_true rfl)
        have en : no + nls rest - nls (d :: r') + nl d = no + nls rest - nls r' := by simp only [nls]; omega
        rw [en] at N5
        clear F9 N9 en hS'
        dsimp only
        repeat' ((fail_if_success (with_reducible show wpAny _ _ (call (Value.ref 42) _) _ _ _)); (fail_if_success (with_reducible show ∃ _, _)); (fail_if_success (with_reducible show LeaveK h₀ _ _ _ _ _ _)); (fail_if_success (with_reducible show wpAny _ _ (exec (Stmt.For _ _ _ _ _) _) _ _ _)); first | (k_unfold; (try dsimp only)) | (k_end; wrow_close) | (first | ((with_reducible show wpAny _ _ (pyIter (Value.ref _)) _ _ _); with_reducible ((k_here; k_dflt (refine' pyIter_ci ?N ?q ?_; (case N => k_asm); (case q => k_mem))))) | ((with_reducible show wpAny _ _ (call (Value.builtin "iter") _) _ _ _); with_reducible ((k_here; k_dflt (refine' iter_K ?F ?N ?q ?_; (case F => k_asm); (case N => k_asm); (case q => k_mem)); (intro it _h1 F' N' li; (try k_lt li); (try k_sweep))))) | ((with_reducible show wpAny _ _ (truthy (Value.ref _)) _ _ _); with_reducible ((k_here; k_dflt (first | (refine' truthy_snoc ?N ?hm ?hz ?_; (case N => k_asm); (case hm => k_mem); (case hz => assumption)) | (refine' truthy_nil ?N ?hm ?_; (case N => k_asm); (case hm => k_mem)) | (refine' truthy_cons ?N ?hm ?hz ?_; (case N => k_asm); (case hm => k_mem); (case hz => assumption)))))) | walk1) | (dsimp only; (first | ((with_reducible show wpAny _ _ (pyIter (Value.ref _)) _ _ _); with_reducible ((k_here; k_dflt (refine' pyIter_ci ?N ?q ?_; (case N => k_asm); (case q => k_mem))))) | ((with_reducible show wpAny _ _ (call (Value.builtin "iter") _) _ _ _); with_reducible ((k_here; k_dflt (refine' iter_K ?F ?N ?q ?_; (case F => k_asm); (case N => k_asm); (case q => k_mem)); (intro it _h1 F' N' li; (try k_lt li); (try k_sweep))))) | ((with_reducible show wpAny _ _ (truthy (Value.ref _)) _ _ _); with_reducible ((k_here; k_dflt (first | (refine' truthy_snoc ?N ?hm ?hz ?_; (case N => k_asm); (case hm => k_mem); (case hz => assumption)) | (refine' truthy_nil ?N ?hm ?_; (case N => k_asm); (case hm => k_mem)) | (refine' truthy_cons ?N ?hm ?hz ?_; (case N => k_asm); (case hm => k_mem); (case hz => assumption)))))) | walk1)) | (leave1; walk_say "STEP leave1"; try dsimp only) | fail "no step")
        rename Fr g1 L1 _ _ => F9
        rename News g1 L1 _ _ => N9
        simp only [emp_app] at F9
        refine bare_loop rfl B1 (frCast F9 (m' := (fun y => if y = Str.ofString "ch" then some (.str ⟨#[d]⟩ td) else if y = Str.ofString "fiter" then some (.ref it) else if y = Str.ofString "token" then some (.str ⟨([d] : List Nat).toArray⟩ _) else if y = Str.ofString "self" then some (.ref lx) else none)) (by
          intro y
          by_cases e1 : y = Str.ofString "token"
          · subst e1; rfl
          · by_cases e2 : y = Str.ofString "ch"
            · subst e2; rfl
            · simp only [if_neg e1, if_neg e2])) X1 N9 T1 ho hq hit hoc hoq hce hlam C hS2 (by simp only [List.length_cons, List.length_nil] at hrl ⊢; omega) hg9 (fun t tno' t0' sn' us' h' tk' m' hS9 F8 N8 => ?_)
        dsimp only
        refine leave_K F8 N8 kp ?_
        intro kF kN kK
        have e5 : no + nls rest - nls r' + nls r' - nls rest' = no + nls rest - nls rest' := by omega
        rw [e5] at kN
        exact hret _ _ _ _ _ _ hS9 kF (News.sub kN (mem_cons' (by k_mem) (mem_cons' (by k_mem) (mem_cons' (by k_mem) (mem_cons' (by k_mem) (mem_cons' (by k_mem) (mem_cons' (by k_mem) (mem_cons' (by k_mem) (mem_cons' (by k_mem) (mem_one (by k_mem))))))))))) kK
    · rename Fr g1 L1 _ _ => F9
      rename News g1 L1 _ _ => N9
      have e9 := ws_no (c := c) (by assumption)
      have e8 := not34 (c := c) (by assumption)
      have e7 := not92 (c := c) (by assumption)
      have hg9 : bareGo r false [c] = some (tok, rest') := by simpa [tokGo, e9, e8, e7] using hg
      simp only [emp_app] at F9
      refine bare_loop rfl B1 (frCast F9 (m' := (fun y => if y = Str.ofString "ch" then some (.str ⟨#[c]⟩ tc) else if y = Str.ofString "fiter" then some (.ref it) else if y = Str.ofString "token" then some (.str ⟨([c] : List Nat).toArray⟩ _) else if y = Str.ofString "self" then some (.ref lx) else none)) (by
        intro y
        by_cases e1 : y = Str.ofString "token"
        · subst e1; rfl
        · by_cases e2 : y = Str.ofString "ch"
          · subst e2; rfl
          · simp only [if_neg e1, if_neg e2])) X1 N9 T1 ho hq hit hoc hoq hce hlam C hS' (by simp only [List.length_cons, List.length_nil]; omega) hg9 (fun t tno' t0' sn' us' h' tk' m' hS9 F8 N8 => ?_)
      dsimp only
      refine leave_K F8 N8 kp ?_
      intro kF kN kK
      have e5 : no + nls rest - nls r + nls r - nls rest' = no + nls rest - nls rest' := by omega
      rw [e5] at kN
      exact hret _ _ _ _ _ _ hS9 kF (News.sub kN (mem_cons' (by k_mem) (mem_cons' (by k_mem) (mem_cons' (by k_mem) (mem_cons' (by k_mem) (mem_cons' (by k_mem) (mem_cons' (by k_mem) (mem_cons' (by k_mem) (mem_cons' (by k_mem) (mem_one (by k_mem))))))))))) kK
    · rename Fr g1 L1 _ _ => F9
      rename News g1 L1 _ _ => N9
      have e9 := ws_yes (c := c) (by assumption)
      have hg9 : tokGo r = some (tok, rest') := by simpa [tokGo, e9] using hg
      dsimp only
      exact ⟨r.length, by omega, (hI _ _).mpr ⟨r, xs, _, _, t0, _, _, _, some (.str ⟨#[c]⟩ tc), _, rfl, rfl, by omega, frCast F9 (by
        intro y
        by_cases e1 : y = Str.ofString "token"
        · subst e1; rfl
        · by_cases e2 : y = Str.ofString "ch"
          · subst e2; rfl
          · simp only [if_neg e1, if_neg e2]), N9, hS', hg9, rfl⟩⟩
-- T4
section
noncomputable def opTab : List (List Nat × Int) := [([33], 54), ([33, 61], 28), ([37], 24), ([37, 61], 40), ([38], 19), ([38, 61], 41), ([40], 7), ([41], 8), ([42], 16), ([42, 42], 35), ([42, 42, 61], 46), ([42, 61], 38), ([43], 14), ([43, 61], 36), ([44], 12), ([45], 15), ([45, 61], 37), ([45, 62], 51), ([46], 23), ([46, 46, 46], 52), ([47], 17), ([47, 47], 47), ([47, 47, 61], 48), ([47, 61], 39), ([58], 11), ([58, 61], 53), ([59], 13), ([60], 20), ([60, 60], 33), ([60, 60, 61], 44), ([60, 61], 29), ([61], 22), ([61, 61], 27), ([62], 21), ([62, 61], 30), ([62, 62], 34), ([62, 62, 61], 45), ([64], 49), ([64, 61], 50), ([91], 9), ([93], 10), ([94], 32), ([94, 61], 43), ([123], 25), ([124], 18), ([124, 61], 42), ([125], 26), ([126], 31)]
noncomputable def num (x : List Nat) : Int := (opTab.lookup x).getD 0
inductive TabIs : List DictEntry → List (List Nat × Int) → Prop
  | nil : TabIs [] []
  | cons {e : DictEntry} {es : List DictEntry} {p : List Nat × Int} {r : List (List Nat × Int)} {t u : Tok} : e.key = .str ⟨p.1.toArray⟩ t → e.val = .int p.2 u → TabIs es r → TabIs (e :: es) (p :: r)
theorem tab_find {es : List DictEntry} {tab : List (List Nat × Int)} (h : TabIs es tab) (x : List Nat) :
    (tab.lookup x = none ∧ findBy Value.isStrOf es.toArray ⟨x.toArray⟩ = none) ∨ ∃ n u, tab.lookup x = some n ∧ findBy Value.isStrOf es.toArray ⟨x.toArray⟩ = some (.int n u) := by
  unfold findBy
  rw [List.find?_toArray]
  induction h with
  | nil => exact .inl ⟨rfl, rfl⟩
  | @cons e es p r t u hk hv _ ih =>
    rw [List.find?_cons, List.lookup_cons, hk]
    by_cases hx : x = p.1
    · right
      refine ⟨p.2, u, by simp [hx], ?_⟩
      have : Value.isStrOf ⟨x.toArray⟩ (.str ⟨p.1.toArray⟩ t) = true := by simp [Value.isStrOf, hx]
      rw [this]
      simp [hv]
    · have h1 : Value.isStrOf ⟨x.toArray⟩ (.str ⟨p.1.toArray⟩ t) = false := by
        have : (Str.mk p.1.toArray == Str.mk x.toArray) = false := beq_eq_false_iff_ne.mpr fun e => hx (by injection e with e; have e9 := congrArg Array.toList e; simpa using e9.symm)
        exact this
      have h2 : (x == p.1) = false := beq_eq_false_iff_ne.mpr hx
      rw [h1, h2]
      exact ih
theorem ett_is (w : World) : ∃ es n, (Mine.KL w.params).lookup 64 = some ⟨.type "dict", none, .dict es n, #[]⟩ ∧ KeysLit w.params es.toList ∧ TabIs es.toList opTab := by
  refine ⟨_, _, rfl, ?_, ?_⟩
  · dsimp only
    repeat' (first | exact True.intro | (refine And.intro ⟨_, _, rfl, rfl⟩ ?_))
  · dsimp only [opTab]
    repeat' (first | exact TabIs.nil | (refine TabIs.cons (congrArg (fun x => Value.str x _) ?h1) rfl ?_; (case h1 => decide +kernel)))
section
variable {w : World} {A : Around} {E : Value → Shared → Prop} {s : Shared} {h₀ : Heap} {L : Addr} {m : Str → Option Value} {Q : Value → Shared → Prop}
theorem ett_map (X : (Mine.KL w.params).In h₀) : ∃ f, h₀.MapOf (strKind PySem.Challenge.rw_st0010_01.row.prog w) 64 f ∧ ∀ x : List Nat, (opTab.lookup x = none ∧ f ⟨x.toArray⟩ = none) ∨ ∃ n u, opTab.lookup x = some n ∧ f ⟨x.toArray⟩ = some (.int n u) := by
  obtain ⟨es, n, h1, h2, h3⟩ := ett_is w
  exact ⟨_, mapOf_K X h1 h2, fun x => by simpa using tab_find h3 x⟩
theorem ett_get {x : List Nat} {t u : Tok} (F : Fr h₀ L s.heap m) (X : (Mine.KL w.params).In h₀)
    (h : ∀ tk, Q (.int (num x) tk) { s with toks := s.toks + 1 }) :
    wpAny (model PySem.Challenge.rw_st0010_01.row.prog w) A (call (.builtin "dict.get") [.ref 64, .str ⟨x.toArray⟩ t, .int 0 u]) Q E s := by
  obtain ⟨f, hm, hf⟩ := ett_map (X.keeps F.keep)
  refine call_meetsIn PySem.F.slot_dict_get hm.typeIs PySem.F.entry_dict_get (PySem.F.args_dict_get_3 _ _ _) (meets_dict_get_default _ 64 (strKind_is _ w _ t) (by decide) _) ⟨f, hm, ?_⟩
  rcases hf x with ⟨h1, h2⟩ | ⟨n, u', h1, h2⟩
  · rw [h2]; simpa [num, h1] using h u
  · rw [h2]; simpa [num, h1] using h u'
theorem ett_item {value slice : Expr} {x : List Nat} {t : Tok} (F : Fr h₀ L s.heap m) (X : (Mine.KL w.params).In h₀) (hx : num x ≠ 0)
    (h : ∀ tk, Q (.int (num x) tk) { s with toks := s.toks + 1 })
    (hs : subscripted slice false (.ref 64) (.str ⟨x.toArray⟩ t) = operate [.ref 64, .str ⟨x.toArray⟩ t] (getItem (.ref 64) (.str ⟨x.toArray⟩ t)) := by with_unfolding_all rfl)
    (hg : ∀ r, letTemporaryGo value (.ref 64) r = pure () := by intro _; with_unfolding_all rfl) :
    wpAny (model PySem.Challenge.rw_st0010_01.row.prog w) A (subscriptTail value slice (.ref 64) (.str ⟨x.toArray⟩ t)) Q E s := by
  obtain ⟨f, hm, hf⟩ := ett_map (X.keeps F.keep)
  rcases hf x with ⟨h1, h2⟩ | ⟨n, u', h1, h2⟩
  · exact absurd (by simp [num, h1]) hx
  · refine subscriptTail_builtin hm.typeIs slot_dict_getitem.lookup (wpAny_getItem_of (strKind_is _ w _ t) hm h2 ?_) hs hg
    have := h u'
    simpa [num, h1] using this
theorem ett_method {pl : Sem Bool} {Q : Value × List Value → Shared → Prop} (F : Fr h₀ L s.heap m) (X : (Mine.KL w.params).In h₀) (h : Q (.builtin "dict.get", [.ref 64]) s) :
    wpAny (model PySem.Challenge.rw_st0010_01.row.prog w) A (getMethod (.ref 64) (Str.ofString "get") pl) Q E s := by
  obtain ⟨f, hm, hf⟩ := ett_map (X.keeps F.keep)
  exact getMethod_builtin hm.typeIs PySem.F.plainAttrs_dict PySem.F.slot_dict_get PySem.F.type_dict_get hm.noDict h
end
end
-- T5
section
noncomputable def whileOf : Option (Scope × Stmt) := match (PySem.Challenge.pw_st0010_01.main.body.drop 62 : List Stmt) with
  | Stmt.FunctionDef _ _ (_ :: Stmt.For _ _ [_, _, q, _] _ _ :: _) _ _ _ sc _ _ _ :: _ => some (sc, q)
  | _ => none
section
variable {prog : Program} {w : World} {A : Around} {E : Value → Shared → Prop} {s : Shared} {h₀ : Heap} {L : Addr} {m : Str → Option Value} {news : List (Addr × Obj)} {l : Addr} {n : Nat}
theorem len_L {xs : List Value} {Q : Value → Shared → Prop} (N : News h₀ L s.heap news) (hm : (l, listOf xs.toArray n) ∈ news) (hz : xs.length ≤ 1000000)
    (h : ∀ tk, Q (.int xs.length tk) { s with toks := s.toks + 1 + 1 }) : wpAny (model prog w) A (call (.builtin "len") [.ref l]) Q E s := by
  have hl : s.heap.IsList l xs.toArray := ⟨_, (N _ hm).1, rfl, n, rfl⟩
  refine Calls.call_function_entry (by decide +kernel) plain_len entry_len (by unfold argsOk; kernel_rfl) ?_
  refine wpAny_mono (wpAny_len_body_list (Q := fun r s' => Q r s') hl (by simp; omega) (by simpa using h _)) (fun fin s' h' => ?_) fun _ _ e => e
  obtain ⟨r, rfl, hq⟩ := h'
  exact ⟨r, rfl, hq⟩
end
end
-- S11
section
inductive Words : List Value → List (List Nat) → Prop
  | nil : Words [] []
  | cons {v : Value} {vs : List Value} {c : List Nat} {cs : List (List Nat)} {t : Tok} : v = .str ⟨c.toArray⟩ t → Words vs cs → Words (v :: vs) (c :: cs)
theorem Words.length {vs : List Value} {cs : List (List Nat)} (h : Words vs cs) : vs.length = cs.length := by
  induction h with
  | nil => rfl
  | cons _ _ ih => simp [ih]
theorem Words.append {vs vs' : List Value} {cs cs' : List (List Nat)} (h : Words vs cs) (h' : Words vs' cs') : Words (vs ++ vs') (cs ++ cs') := by
  induction h with
  | nil => exact h'
  | cons e _ ih => exact .cons e ih
noncomputable def nextTok : List (List Nat) × List Nat → Option (List Nat × List (List Nat) × List Nat)
  | (w :: ws, rest) => some (w, ws, rest)
  | ([], rest) => match tokGo rest with
    | some (w, rest') => some (w, [], rest')
    | none => none
section
variable {prog : Program} {w : World} {A : Around} {E : Value → Shared → Prop} {s : Shared} {h₀ : Heap} {L : Addr} {m : Str → Option Value} {news news' : List (Addr × Obj)} {l : Addr} {n : Nat}
end
set_option maxHeartbeats 8000000 in
theorem spec_pop {R : Result → Shared → Prop} {w : World} {A₀ : Around} {base h₀ : Heap} {outer : List Env} {L a : Addr} {m mg mb : Str → Option Value} {s : Shared} {p : Program} {loose : List Str} {mean : ExcName → Option Value} {cn : Str} {cs : Scope} {ccd : Value} {cl : List (Str × Addr)} {gd : Option (List Code)} {lx dl pb fn cc st ds sg ce pb2 : Addr} {k1 k2 k3 k4 k5 j1 j2 j3 j4 j5 j6 j7 tq : Tok} {qual : Str} {pm ctv : Value} {oc oce : Obj} {ocv : Array Value} {lamP : Arguments} {lamB : Expr} {lamS : Scope} {no : Int} {tno : Tok} {pn sn : Nat} {v : Value} {ps : List Value} {sgs : Array Value}
    (B : Below A₀ base outer h₀) (F : Fr h₀ L s.heap m) (X : (Mine.KL w.params).In h₀) (N : News h₀ L s.heap [(lx, instObj 59 dl), (dl, lexE w k1 k2 k3 k4 k5 no tno st pb), (pb, listOf (v :: ps).toArray pn), (fn, lamE qual lamP lamB lamS ce pm cc ctv), (cc, oc), (st, instObj 59 ds), (ds, strE w j1 j2 j3 j4 j5 j6 j7 pb2 fn), (sg, listOf sgs sn), (ce, oce)]) (T : Top p loose mean mg mb h₀) (hk : cs.kind = .function) (ho : @LT.lt Nat _ ce sg ∧ @LT.lt Nat _ sg ds ∧ @LT.lt Nat _ ds st ∧ @LT.lt Nat _ st cc ∧ @LT.lt Nat _ cc fn ∧ @LT.lt Nat _ fn dl ∧ @LT.lt Nat _ dl lx ∧ @LT.lt Nat _ lx pb) (hoc : oc.data = .fields ocv) (hoq : ocv[1]? = some (.str qual tq)) (hce : oce.data = .cell (some (.ref sg))) (hlam : LamIs lamP lamB lamS) (C : CodeHd base 86 82) (hz : ps.length ≤ 1000000)
    (hret : ∀ h' tk', Fr h₀ L h' m → News h₀ L h' [(lx, instObj 59 dl), (dl, lexE w k1 k2 k3 k4 k5 no tno st pb), (pb, listOf ps.toArray (pn + 1)), (fn, lamE qual lamP lamB lamS ce pm cc ctv), (cc, oc), (st, instObj 59 ds), (ds, strE w j1 j2 j3 j4 j5 j6 j7 pb2 fn), (sg, listOf sgs sn), (ce, oce)] → Keeps s.heap h' [(lx, instObj 59 dl), (dl, lexE w k1 k2 k3 k4 k5 no tno st pb), (pb, listOf (v :: ps).toArray pn), (fn, lamE qual lamP lamB lamS ce pm cc ctv), (cc, oc), (st, instObj 59 ds), (ds, strE w j1 j2 j3 j4 j5 j6 j7 pb2 fn), (sg, listOf sgs sn), (ce, oce)] → R (.ok (.ret v)) { s with heap := h', toks := tk' }) :
    codeAny (model PySem.Challenge.rw_st0010_01.row.prog w) (ktrTop 550 550 gd cn cs L a ccd cl outer) (.call (.ref 49) ⟨[.ref lx], []⟩) R s := by
  revert X; k_fill; intro X
  refine' enter_K ?k1 ?k2 ?k3 ?k4 ?k5 ?kA ?kF ?kK ?k6 ?k7 ?k8 ?k9 ?kB ?_ ?c2 ?c3 ?c4 ?c5
  (case kA => exact rfl)
  (case kF => exact rfl)
  (case kK => assumption)
  (case k1 => k_asm)
  (case k2 => k_asm)
  (case k3 => k_asm)
  (case k4 => k_asm)
  (case k5 => k_asm)
  (case k6 => k_is)
  (case k7 => k_is)
  (case k8 => exact Nat.le_of_ble_eq_true rfl)
  (case k9 => exact BindsTo.of_eq rfl)
  (case c5 => decide)
  (case kB => exact locs rfl)
  (case c2 => exact rfl)
  (case c3 => exact rfl)
  (case c4 => exact rfl)
  intro g1 L1 h1 FG F1 N1 B1 X1 T1 kp l1
  k_lt l1
  (try dsimp only)
  (try k_lift B1)
  repeat' ((fail_if_success (with_reducible show wpAny _ _ (call (Value.ref 42) _) _ _ _)); (fail_if_success (with_reducible show ∃ _, _)); (fail_if_success (with_reducible show LeaveK h₀ _ _ _ _ _ _)); (fail_if_success (with_reducible show wpAny _ _ (exec (Stmt.For _ _ _ _ _) _) _ _ _)); first | (k_unfold; (try dsimp only)) | (k_end; wrow_close) | (first | ((with_reducible show wpAny _ _ (call (Value.builtin "list.pop") _) _ _ _); with_reducible ((k_here; (with_reducible show wpAny _ _ (call (Value.builtin _) [Value.ref _, Value.int _ _]) _ _ _); k_dflt (refine' pop_head ?F ?N ?U ?z ?_; (case F => k_asm); (case N => k_asm); (case U => k_upd); (case z => assumption)); (intro h' F' N'; (try dsimp only [List.nil_append, List.cons_append] at N'); (try k_sweep))))) | ((with_reducible show wpAny _ _ (pyIter (Value.ref _)) _ _ _); with_reducible ((k_here; k_dflt (refine' pyIter_ci ?N ?q ?_; (case N => k_asm); (case q => k_mem))))) | ((with_reducible show wpAny _ _ (call (Value.builtin "iter") _) _ _ _); with_reducible ((k_here; k_dflt (refine' iter_K ?F ?N ?q ?_; (case F => k_asm); (case N => k_asm); (case q => k_mem)); (intro it' h' F' N' l1; (try k_lt l1); (try k_sweep))))) | ((with_reducible show wpAny _ _ (truthy (Value.ref _)) _ _ _); with_reducible ((k_here; k_dflt (first | (refine' truthy_snoc ?N ?hm ?hz ?_; (case N => k_asm); (case hm => k_mem); (case hz => assumption)) | (refine' truthy_nil ?N ?hm ?_; (case N => k_asm); (case hm => k_mem)) | (refine' truthy_cons ?N ?hm ?hz ?_; (case N => k_asm); (case hm => k_mem); (case hz => assumption)))))) | walk1) | (dsimp only; (first | ((with_reducible show wpAny _ _ (call (Value.builtin "list.pop") _) _ _ _); with_reducible ((k_here; (with_reducible show wpAny _ _ (call (Value.builtin _) [Value.ref _, Value.int _ _]) _ _ _); k_dflt (refine' pop_head ?F ?N ?U ?z ?_; (case F => k_asm); (case N => k_asm); (case U => k_upd); (case z => assumption)); (intro h' F' N'; (try dsimp only [List.nil_append, List.cons_append] at N'); (try k_sweep))))) | ((with_reducible show wpAny _ _ (pyIter (Value.ref _)) _ _ _); with_reducible ((k_here; k_dflt (refine' pyIter_ci ?N ?q ?_; (case N => k_asm); (case q => k_mem))))) | ((with_reducible show wpAny _ _ (call (Value.builtin "iter") _) _ _ _); with_reducible ((k_here; k_dflt (refine' iter_K ?F ?N ?q ?_; (case F => k_asm); (case N => k_asm); (case q => k_mem)); (intro it' h' F' N' l1; (try k_lt l1); (try k_sweep))))) | ((with_reducible show wpAny _ _ (truthy (Value.ref _)) _ _ _); with_reducible ((k_here; k_dflt (first | (refine' truthy_snoc ?N ?hm ?hz ?_; (case N => k_asm); (case hm => k_mem); (case hz => assumption)) | (refine' truthy_nil ?N ?hm ?_; (case N => k_asm); (case hm => k_mem)) | (refine' truthy_cons ?N ?hm ?hz ?_; (case N => k_asm); (case hm => k_mem); (case hz => assumption)))))) | walk1)) | (leave1; walk_say "STEP leave1"; try dsimp only) | fail "no step")
  dsimp only
  rename Fr g1 L1 _ _ => F9
  rename News g1 L1 _ _ => N9
  refine leave_K F9 N9 kp ?_
  intro kF kN kK
  exact hret _ _ kF kN kK
theorem spec_get {R : Result → Shared → Prop} {w : World} {A₀ : Around} {base h₀ : Heap} {outer : List Env} {L a : Addr} {m mg mb : Str → Option Value} {s : Shared} {p : Program} {loose : List Str} {mean : ExcName → Option Value} {cn : Str} {cs : Scope} {ccd : Value} {cl : List (Str × Addr)} {gd : Option (List Code)} {lx dl pb fn cc st ds sg ce pb2 : Addr} {k1 k2 k3 k4 k5 j1 j2 j3 j4 j5 j6 j7 tq : Tok} {qual : Str} {pm ctv : Value} {oc oce : Obj} {ocv : Array Value} {lamP : Arguments} {lamB : Expr} {lamS : Scope} {no : Int} {tno : Tok} {pn sn : Nat} {vs ps : List Value} {pws pws' : List (List Nat)} {rest rest' tok : List Nat}
    (B : Below A₀ base outer h₀) (F : Fr h₀ L s.heap m) (X : (Mine.KL w.params).In h₀) (N : News h₀ L s.heap [(lx, instObj 59 dl), (dl, lexE w k1 k2 k3 k4 k5 no tno st pb), (pb, listOf ps.toArray pn), (fn, lamE qual lamP lamB lamS ce pm cc ctv), (cc, oc), (st, instObj 59 ds), (ds, strE w j1 j2 j3 j4 j5 j6 j7 pb2 fn), (sg, listOf vs.toArray sn), (ce, oce)]) (T : Top p loose mean mg mb h₀) (hk : cs.kind = .function) (ho : @LT.lt Nat _ ce sg ∧ @LT.lt Nat _ sg ds ∧ @LT.lt Nat _ ds st ∧ @LT.lt Nat _ st cc ∧ @LT.lt Nat _ cc fn ∧ @LT.lt Nat _ fn dl ∧ @LT.lt Nat _ dl lx ∧ @LT.lt Nat _ lx pb) (hoc : oc.data = .fields ocv) (hoq : ocv[1]? = some (.str qual tq)) (hce : oce.data = .cell (some (.ref sg))) (hlam : LamIs lamP lamB lamS) (C : CodeHd base 86 82) (hp : Words ps pws) (hz : ps.length ≤ 1000000) (hv : Signs vs rest.reverse) (hlen : rest.length ≤ 10000) (hgo : nextTok (pws, rest) = some (tok, pws', rest'))
    (hret : ∀ t tno' pn' sn' ps' us' h' tk', Words ps' pws' → Signs us' rest'.reverse → Fr h₀ L h' m → News h₀ L h' [(lx, instObj 59 dl), (dl, lexE w k1 k2 k3 k4 k5 (no + nls rest - nls rest') tno' st pb), (pb, listOf ps'.toArray pn'), (fn, lamE qual lamP lamB lamS ce pm cc ctv), (cc, oc), (st, instObj 59 ds), (ds, strE w j1 j2 j3 j4 j5 j6 j7 pb2 fn), (sg, listOf us'.toArray sn'), (ce, oce)] → Keeps s.heap h' [(lx, instObj 59 dl), (dl, lexE w k1 k2 k3 k4 k5 no tno st pb), (pb, listOf ps.toArray pn), (fn, lamE qual lamP lamB lamS ce pm cc ctv), (cc, oc), (st, instObj 59 ds), (ds, strE w j1 j2 j3 j4 j5 j6 j7 pb2 fn), (sg, listOf vs.toArray sn), (ce, oce)] → R (.ok (.ret (.str ⟨tok.toArray⟩ t))) { s with heap := h', toks := tk' }) :
    codeAny (model PySem.Challenge.rw_st0010_01.row.prog w) (ktrTop 550 550 gd cn cs L a ccd cl outer) (.call (.ref 49) ⟨[.ref lx], []⟩) R s := by
  cases hp with
  | nil =>
    have hg : ∃ w r, tokGo rest = some (w, r) ∧ w = tok ∧ pws' = [] ∧ r = rest' := by
      cases e : tokGo rest with
      | none => simp [nextTok, e] at hgo
      | some q =>
        obtain ⟨w, r⟩ := q
        simp only [nextTok, e, Option.some.injEq, Prod.mk.injEq] at hgo
        exact ⟨w, r, rfl, hgo.1, hgo.2.1.symm, hgo.2.2⟩
    obtain ⟨w1, r1, e1, rfl, rfl, rfl⟩ := hg
    exact spec_tok B F X N T hk ho hoc hoq hce hlam C hv hlen e1 fun t tno' sn' us' h' tk' hS kF kN kK => hret t tno' pn sn' [] us' h' tk' .nil hS kF kN kK
  | cons e hp' =>
    simp only [nextTok, Option.some.injEq, Prod.mk.injEq] at hgo
    obtain ⟨rfl, rfl, rfl⟩ := hgo
    subst e
    refine spec_pop B F X N T hk ho hoc hoq hce hlam C (by simp only [List.length_cons] at hz; omega) fun h' tk' kF kN kK => hret _ tno _ sn _ _ h' tk' hp' hv kF (by
      rw [show no + nls rest - nls rest = no by omega]
      exact kN) kK
end
-- S5
set_option maxHeartbeats 8000000 in
theorem spec_lexer {w : World} {A₀ : Around} {base h₀ : Heap} {outer : List Env} {L a : Addr} {m mg mb : Str → Option Value} {s : Shared} {Q E : Value → Shared → Prop} {p : Program} {loose : List Str} {mean : ExcName → Option Value} {cn : Str} {cs : Scope} {ccd : Value} {cl : List (Str × Addr)} {gd : Option (List Code)}
    (B : Below A₀ base outer h₀) (F : Fr h₀ L s.heap m) (X : (Mine.KL w.params).In h₀) (T : Top p loose mean mg mb h₀) (hk : cs.kind = .function) (txt : Str) (tt : Tok) (hlen : txt.length ≤ 1000)
    (codeHd : CodeHd base 86 82) (N : News h₀ L s.heap [(82, tabObj #[])])
    (hret : ∀ (lx dl pb fn cc st ds sg ce pb2 : Addr) (k1 k2 k3 k4 k5 j1 j2 j3 j4 j5 j6 j7 tq : Tok) (qual : Str) (pm ctv : Value) (oc oce : Obj) (ocv : Array Value) (lamP : Arguments) (lamB : Expr) (lamS : Scope) tno ys sn h' tk', Fr h₀ L h' m → News h₀ L h' [(lx, instObj 59 dl), (dl, lexE w k1 k2 k3 k4 k5 1 tno st pb), (pb, listOf #[] 0), (fn, lamE qual lamP lamB lamS ce pm cc ctv), (cc, oc), (st, instObj 59 ds), (ds, strE w j1 j2 j3 j4 j5 j6 j7 pb2 fn), (sg, listOf ys sn), (ce, oce), (82, tabObj (#[] ++ #[rawInt ((107 : Nat) : Int), rawInt ((18 : Nat) : Int), .ref cc]))] → Keeps s.heap h' [(82, tabObj #[])] → Signs ys.toList txt.cps.toList.reverse → @LT.lt Nat _ ce sg ∧ @LT.lt Nat _ sg ds ∧ @LT.lt Nat _ ds st ∧ @LT.lt Nat _ st cc ∧ @LT.lt Nat _ cc fn ∧ @LT.lt Nat _ fn dl ∧ @LT.lt Nat _ dl lx ∧ @LT.lt Nat _ lx pb → s.heap.objs.size ≤ ce → oc.data = .fields ocv → ocv[1]? = some (.str qual tq) → oce.data = .cell (some (.ref sg)) → LamIs lamP lamB lamS → Q (.ref lx) { s with heap := h', toks := tk' }) :
    wpAny (model PySem.Challenge.rw_st0010_01.row.prog w) (ktrTop 500 500 gd cn cs L a ccd cl outer) (call (.ref 87) [.str txt tt]) Q E s := by
  revert X; k_fill; intro X
  refine wpAny_call ?_
  k_dflt (first | ((refine' enter_KC2 ?k1 ?k2 ?k3 ?k4 ?k5 ?kA ?kF ?kK ?k6 ?k7 ?k8 ?k9 ?kB ?kD ?_ ?c2 ?c3 ?c4; (case kA => exact rfl); (case kF => exact rfl); (case kK => assumption); (case k1 => k_asm); (case k2 => k_asm); (case k3 => k_asm); (case k4 => k_asm); (case k5 => k_asm); (case k6 => k_is); (case k7 => k_is); (case k8 => exact Nat.le_of_ble_eq_true rfl); (case k9 => exact BindsTo.of_eq rfl); (case kB => exact rfl); (case kD => decide +kernel); (case c2 => exact rfl); (case c3 => exact rfl); (case c4 => exact rfl); k_whole; intro g' L' h' tk' cells' FG' F' N' Y' B' X' T' kp' l1 hsz; (try k_lt l1); k_cells Y'; (try simp only [List.cons_append, List.nil_append] at N'); (try dsimp only); (try k_lift B'); (try k_fold))) | ((refine' enter_K ?k1 ?k2 ?k3 ?k4 ?k5 ?kA ?kF ?kK ?k6 ?k7 ?k8 ?k9 ?kB ?_ ?c2 ?c3 ?c4 ?c5; (case kA => exact rfl); (case kF => exact rfl); (case kK => assumption); (case k1 => k_asm); (case k2 => k_asm); (case k3 => k_asm); (case k4 => k_asm); (case k5 => k_asm); (case k6 => k_is); (case k7 => k_is); (case k8 => exact Nat.le_of_ble_eq_true rfl); (case k9 => exact BindsTo.of_eq rfl); (case c5 => decide); (case kB => exact locs rfl); (case c2 => exact rfl); (case c3 => exact rfl); (case c4 => exact rfl); k_whole; intro g' L' h' FG' F' N' B' X' T' kp' l1; (try k_lt l1); (try dsimp only); (try k_lift B'); (try k_fold))))
  repeat' ((fail_if_success (with_reducible show LeaveK h₀ _ _ _ _ _ _)); first | (k_unfold; (try dsimp only)) | (k_end; wrow_close) | (first | ((with_reducible show wpAny _ _ (call (Value.type _) _) _ _ _); with_reducible ((k_here; (with_reducible show wpAny _ _ (call (Value.type _) [Value.str _ _]) _ _ _); k_dflt (refine' listStr_K ?hh ?k1 ?k2 ?z ?_; (case hh => exact rfl); (case k1 => k_asm); (case k2 => k_asm); (case z => exact Nat.le_trans (Txt.sliceBy_le _ _ _ _ (show (-1 : Int) ≠ 0 by decide)) (by size_fits)); k_whole); intro l' h' tk' ys' c' F' N' l1 hS'; (try k_lt l1); (try k_sweep)))) | walk1) | (dsimp only; (first | ((with_reducible show wpAny _ _ (call (Value.type _) _) _ _ _); with_reducible ((k_here; (with_reducible show wpAny _ _ (call (Value.type _) [Value.str _ _]) _ _ _); k_dflt (refine' listStr_K ?hh ?k1 ?k2 ?z ?_; (case hh => exact rfl); (case k1 => k_asm); (case k2 => k_asm); (case z => exact Nat.le_trans (Txt.sliceBy_le _ _ _ _ (show (-1 : Int) ≠ 0 by decide)) (by size_fits)); k_whole); intro l' h' tk' ys' c' F' N' l1 hS'; (try k_lt l1); (try k_sweep)))) | walk1)) | (leave1; walk_say "STEP leave1"; try dsimp only) | fail "no step")
  rename Keeps s.heap _ _ => kp
  rename s.heap.objs.size ≤ _ => hsz
  rename Signs _ _ => hS
  rw [sliceBy_rev] at hS
  refine leave_K (by assumption) (by assumption) kp ?_
  intro kF kN kK
  dsimp only
  exact hret _ _ _ _ _ _ _ _ _ _ _ _ _ _ _ _ _ _ _ _ _ _ _ _ _ _ _ _ _ _ _ _ _ _ _ _ _ kF (News.sub kN (mem_cons' (.tail _ (.head _)) (mem_cons' (.tail _ (.tail _ (.head _))) (mem_cons' (.head _) (mem_cons' (.tail _ (.tail _ (.tail _ (.head _)))) (mem_cons' (.tail _ (.tail _ (.tail _ (.tail _ (.head _))))) (mem_cons' (.tail _ (.tail _ (.tail _ (.tail _ (.tail _ (.tail _ (.head _))))))) (mem_cons' (.tail _ (.tail _ (.tail _ (.tail _ (.tail _ (.tail _ (.tail _ (.head _)))))))) (mem_cons' (.tail _ (.tail _ (.tail _ (.tail _ (.tail _ (.tail _ (.tail _ (.tail _ (.head _))))))))) (mem_cons' (.tail _ (.tail _ (.tail _ (.tail _ (.tail _ (.tail _ (.tail _ (.tail _ (.tail _ (.head _)))))))))) (mem_cons' (.tail _ (.tail _ (.tail _ (.tail _ (.tail _ (.tail _ (.tail _ (.tail _ (.tail _ (.tail _ (.head _))))))))))) (mem_nil')))))))))))) kK hS ⟨by omega, by omega, by omega, by omega, by omega, by omega, by omega, by omega⟩ (by omega) (by assumption) (by assumption) (by assumption) ⟨_, rfl⟩
-- M1
noncomputable def midOf : Option (Scope × List Stmt) := match (PySem.Challenge.pw_st0010_01.main.body.drop 63 : List Stmt) with
  | Stmt.FunctionDef _ _ (_ :: _ :: Stmt.For _ _ q _ _ :: _) _ _ _ sc _ _ _ :: _ => some (sc, q)
  | _ => none
noncomputable def sgs (v : Int) (xs : List Int) : List Int := xs.map fun k => b2i (decide (k < v)) - b2i (decide (v < k))
noncomputable def tiesOf (v : Int) (xs : List Int) : Int := (((sgs v xs).filter fun a => a == 0).length : Nat)
noncomputable def loC (v : Int) (xs : List Int) : Bool := decide ((sgs v xs).sum < tiesOf v xs)
noncomputable def upC (v : Int) (xs : List Int) : Bool := decide (0 < (sgs v xs).sum + tiesOf v xs)
theorem len_made {prog : Program} {w : World} {A : Around} {E : Value → Shared → Prop} {s : Shared} {D : Addr} {ys : List Value} {ns : List Int} {Q : Value → Shared → Prop} (hl : s.heap.IsList D ys.toArray) (hc : CarriedAll ys (ns.map PyData.int)) (hn : ns.length ≤ 1000) (h : ∀ t k, Q (.int ((ns.length : Nat) : Int) t) { s with toks := k }) : wpAny (model prog w) A (call (.builtin "len") [.ref D]) Q E s := by
  have e : ys.length = ns.length := by rw [CarriedAll.length_eq hc, List.length_map]
  refine len_list hl (by simp only [List.size_toArray]; omega) ?_
  simp only [List.size_toArray, e]
  exact h _ _
set_option maxHeartbeats 8000000 in
theorem mid_turn {w : World} {A₀ : Around} {base g : Heap} {outer0 : List Env} {L0 L1 a0 : Addr} {mg mb : Str → Option Value} {s : Shared} {Q : Flow → Shared → Prop} {E : Value → Shared → Prop} {p : Program} {loose : List Str} {mean : ExcName → Option Value} {cn0 nm : Str} {cs0 : Scope} {ccd0 : Value} {cl0 : List (Str × Addr)} {gd : Option (List Code)} {l i up lo : Addr} {o oc : Obj} {n un ln : Nat} {us ls : List Value} {x0 x1 x2 x3 x4 v : Int} {t0 t1 t2 t3 t4 tv : Tok} {vties vsigns : Option Value} {sc : Scope} {S : List Stmt}
    (hP : midOf = some (sc, S)) (B1 : Below A₀ base (envX cn0 cs0 L0 a0 ccd0 cl0 :: outer0) g)
    (F0 : Fr g L1 s.heap (fun y => if y = Str.ofString "ties" then vties else if y = Str.ofString "signs" then vsigns else if y = Str.ofString "upper" then some (.ref up) else if y = Str.ofString "lower" then some (.ref lo) else if y = Str.ofString "numbers" then some (.ref l) else none)) (X1 : (Mine.KL w.params).In g)
    (N0 : News g L1 s.heap [(i, o), (up, listOf us.toArray un), (lo, listOf ls.toArray ln), (L1 + 1, oc), (l, listOf #[.int x0 t0, .int x1 t1, .int x2 t2, .int x3 t3, .int x4 t4] n)]) (T1 : Top p loose mean mg mb g) (hoc : oc.data = .cell (some (.int v tv))) (hlt : @LT.lt Nat _ l L1 ∧ @LT.lt Nat _ (L1 + 1) lo ∧ @LT.lt Nat _ lo up ∧ @LT.lt Nat _ up i) (hus : us.length ≤ 10) (hls : ls.length ≤ 10)
    (hret : ∀ vt vs un' ln' h' tk', Fr g L1 h' (fun y => if y = Str.ofString "ties" then vt else if y = Str.ofString "signs" then vs else if y = Str.ofString "upper" then some (.ref up) else if y = Str.ofString "lower" then some (.ref lo) else if y = Str.ofString "numbers" then some (.ref l) else none) → News g L1 h' [(i, o), (up, listOf (if upC v [x0, x1, x2, x3, x4] then us ++ [.int v tv] else us).toArray un'), (lo, listOf (if loC v [x0, x1, x2, x3, x4] then ls ++ [.int v tv] else ls).toArray ln'), (L1 + 1, oc), (l, listOf #[.int x0 t0, .int x1 t1, .int x2 t2, .int x3 t3, .int x4 t4] n)] → Q .next { s with heap := h', toks := tk' }) :
    wpAny (model PySem.Challenge.rw_st0010_01.row.prog w) ((ktrTop 500 500 gd cn0 cs0 L0 a0 ccd0 cl0 outer0).deeper (envOfC nm sc L1 118 (.ref 117))) (execs S (envOfC nm sc L1 118 (.ref 117))) Q E s := by
  have q1 : @LT.lt Nat _ l (L1 + 1) := by omega
  have q2 : @LT.lt Nat _ l lo := by omega
  have q3 : @LT.lt Nat _ l up := by omega
  have q4 : @LT.lt Nat _ l i := by omega
  have q5 : @LT.lt Nat _ (L1 + 1) lo := by omega
  have q6 : @LT.lt Nat _ (L1 + 1) up := by omega
  have q7 : @LT.lt Nat _ (L1 + 1) i := by omega
  have q8 : @LT.lt Nat _ lo up := by omega
  have q9 : @LT.lt Nat _ lo i := by omega
  have q10 : @LT.lt Nat _ up i := by omega
  conv at hP => lhs; whnf
  injection hP with hP
  injection hP with hP1 hP2
  subst hP1 hP2
  revert X1; k_fill; intro X1
  repeat' ((fail_if_success (with_reducible show LeaveK h₀ _ _ _ _ _ _)); first | (k_unfold; (try dsimp only)) | (k_end; wrow_close) | (first | ((with_reducible show wpAny _ _ (call (Value.builtin "len") _) _ _ _); with_reducible (((with_reducible show wpAny _ _ (call (Value.builtin _) [Value.ref _]) _ _ _); (with_reducible rename CarriedAll _ _ => hc'); refine' len_made ?hl ?hc ?hn ?_; (case hl => assumption); (case hc => exact hc'); (case hn => exact Nat.le_trans (List.length_filter_le _ _) (by simp)); intro _ _))) | walk1) | (dsimp only; (first | ((with_reducible show wpAny _ _ (call (Value.builtin "len") _) _ _ _); with_reducible (((with_reducible show wpAny _ _ (call (Value.builtin _) [Value.ref _]) _ _ _); (with_reducible rename CarriedAll _ _ => hc'); refine' len_made ?hl ?hc ?hn ?_; (case hl => assumption); (case hc => exact hc'); (case hn => exact Nat.le_trans (List.length_filter_le _ _) (by simp)); intro _ _))) | walk1)) | (leave1; walk_say "STEP leave1"; try dsimp only) | fail "no step")
  all_goals first | exact Str.empty | exact (0 : Nat) | exact Value.none | skip
  all_goals (
    rename Fr g L1 _ _ => F9
    rename News g L1 _ _ => N9
    try simp only [List.push_toArray] at N9
    first | (have c1 : loC v [x0, x1, x2, x3, x4] = true := decide_eq_true (by assumption)) | (have c1 : loC v [x0, x1, x2, x3, x4] = false := decide_eq_false (by assumption))
    first | (have c2 : upC v [x0, x1, x2, x3, x4] = true := decide_eq_true (by assumption)) | (have c2 : upC v [x0, x1, x2, x3, x4] = false := decide_eq_false (by assumption))
    dsimp only
    exact hret _ _ _ _ _ _ (frCast F9 (by
      intro y
      by_cases e1 : y = Str.ofString "ties"
      · subst e1; rfl
      by_cases e2 : y = Str.ofString "signs"
      · subst e2; rfl
      simp only [if_neg e1, if_neg e2])) (News.sub N9 (by
        rw [c1]
        rw [c2]
        exact mem_cons' (by k_mem) (mem_cons' (by k_mem) (mem_cons' (by k_mem) (mem_cons' (by k_mem) (mem_one (by k_mem))))))))
-- M2
section
noncomputable def pick (c : Int → Bool) (xs : List Int) : List Int := xs.foldl (fun acc v => if c v then acc ++ [v] else acc) []
noncomputable def MaxIs (l : List Int) (z : Int) : Prop := z ∈ l ∧ ∀ a ∈ l, a ≤ z
noncomputable def MinIs (l : List Int) (z : Int) : Prop := z ∈ l ∧ ∀ a ∈ l, z ≤ a
theorem maxNe {l : List Int} {z : Int} (h : MaxIs l z) : l ≠ [] := List.ne_nil_of_mem h.1
theorem minNe {l : List Int} {z : Int} (h : MinIs l z) : l ≠ [] := List.ne_nil_of_mem h.1
section
variable {prog : Program} {w : World} {A : Around} {E : Value → Shared → Prop} {s : Shared} {h₀ : Heap} {L l : Addr} {m : Str → Option Value} {news : List (Addr × Obj)} {vs : List Value} {ns : List Int} {z : Int} {n : Nat} {Q : Value → Shared → Prop}
theorem max_z (F : Fr h₀ L s.heap m) (N : News h₀ L s.heap news) (hm : (l, listOf vs.toArray n) ∈ news) (hi : IntsAre vs ns) (hz : MaxIs ns z) (hh : A.handled = none)
    (h : ∀ h' t tk, Fr h₀ L h' m → News h₀ L h' news → Q (.int z t) { s with heap := h', toks := tk }) : wpAny (model prog w) A (call (.builtin "max") [.ref l]) Q E s :=
  kso_max F N ⟨_, (N _ hm).1, rfl, n, rfl⟩ hi (List.length_pos_iff.mpr (maxNe hz)) hh fun h' M t tk F' N' a b => by
    have e : M = z := Int.le_antisymm (hz.2 M a) (b z hz.1)
    subst e
    exact h h' t tk F' N'
theorem min_z (F : Fr h₀ L s.heap m) (N : News h₀ L s.heap news) (hm : (l, listOf vs.toArray n) ∈ news) (hi : IntsAre vs ns) (hz : MinIs ns z) (hh : A.handled = none)
    (h : ∀ h' t tk, Fr h₀ L h' m → News h₀ L h' news → Q (.int z t) { s with heap := h', toks := tk }) : wpAny (model prog w) A (call (.builtin "min") [.ref l]) Q E s :=
  kso_min F N ⟨_, (N _ hm).1, rfl, n, rfl⟩ hi (List.length_pos_iff.mpr (minNe hz)) hh fun h' M t tk F' N' a b => by
    have e : M = z := Int.le_antisymm (b z hz.1) (hz.2 M a)
    subst e
    exact h h' t tk F' N'
end
theorem ints_if {c : Bool} {us : List Value} {ns : List Int} {v : Int} {t : Tok} (h : IntsAre us ns) : IntsAre (if c then us ++ [.int v t] else us) (if c then ns ++ [v] else ns) := by
  cases c
  · exact h
  · exact h.append (.cons _ _ .nil)
theorem len_if {c : Bool} {us : List Value} {v : Value} : (if c then us ++ [v] else us).length ≤ us.length + 1 := by
  cases c <;> simp
set_option maxHeartbeats 8000000 in
theorem mid_turn2 {w : World} {A₀ : Around} {base g : Heap} {outer0 : List Env} {L0 L1 a0 : Addr} {mg mb : Str → Option Value} {s : Shared} {Q : Flow → Shared → Prop} {E : Value → Shared → Prop} {p : Program} {loose : List Str} {mean : ExcName → Option Value} {cn0 nm : Str} {cs0 : Scope} {ccd0 : Value} {cl0 : List (Str × Addr)} {gd : Option (List Code)} {l i up lo : Addr} {o oc : Obj} {n un ln : Nat} {us ls : List Value} {x0 x1 x2 x3 x4 v : Int} {t0 t1 t2 t3 t4 tv : Tok} {vties vsigns : Option Value} {sc : Scope} {S : List Stmt} {ns ms : List Int}
    (hP : midOf = some (sc, S)) (B1 : Below A₀ base (envX cn0 cs0 L0 a0 ccd0 cl0 :: outer0) g)
    (F0 : Fr g L1 s.heap (fun y => if y = Str.ofString "ties" then vties else if y = Str.ofString "signs" then vsigns else if y = Str.ofString "upper" then some (.ref up) else if y = Str.ofString "lower" then some (.ref lo) else if y = Str.ofString "numbers" then some (.ref l) else none)) (X1 : (Mine.KL w.params).In g)
    (N0 : News g L1 s.heap [(i, o), (up, listOf us.toArray un), (lo, listOf ls.toArray ln), (L1 + 1, oc), (l, listOf #[.int x0 t0, .int x1 t1, .int x2 t2, .int x3 t3, .int x4 t4] n)]) (T1 : Top p loose mean mg mb g) (hoc : oc.data = .cell (some (.int v tv))) (hlt : @LT.lt Nat _ l L1 ∧ @LT.lt Nat _ (L1 + 1) lo ∧ @LT.lt Nat _ lo up ∧ @LT.lt Nat _ up i) (iu : IntsAre us ns) (il : IntsAre ls ms) (hus : us.length ≤ 10) (hls : ls.length ≤ 10)
    (hret : ∀ vt vs us' ls' un' ln' h' tk', Fr g L1 h' (fun y => if y = Str.ofString "ties" then vt else if y = Str.ofString "signs" then vs else if y = Str.ofString "upper" then some (.ref up) else if y = Str.ofString "lower" then some (.ref lo) else if y = Str.ofString "numbers" then some (.ref l) else none) → News g L1 h' [(i, o), (up, listOf us'.toArray un'), (lo, listOf ls'.toArray ln'), (L1 + 1, oc), (l, listOf #[.int x0 t0, .int x1 t1, .int x2 t2, .int x3 t3, .int x4 t4] n)] → IntsAre us' (if upC v [x0, x1, x2, x3, x4] then ns ++ [v] else ns) → IntsAre ls' (if loC v [x0, x1, x2, x3, x4] then ms ++ [v] else ms) → us'.length ≤ us.length + 1 → ls'.length ≤ ls.length + 1 → Q .next { s with heap := h', toks := tk' }) :
    wpAny (model PySem.Challenge.rw_st0010_01.row.prog w) ((ktrTop 500 500 gd cn0 cs0 L0 a0 ccd0 cl0 outer0).deeper (envOfC nm sc L1 118 (.ref 117))) (execs S (envOfC nm sc L1 118 (.ref 117))) Q E s :=
  mid_turn hP B1 F0 X1 N0 T1 hoc hlt hus hls fun vt vs un' ln' h' tk' F' N' => hret vt vs _ _ un' ln' h' tk' F' N' (ints_if iu) (ints_if il) len_if len_if
set_option maxHeartbeats 8000000 in
theorem spec_middle {w : World} {A₀ : Around} {base h₀ : Heap} {outer : List Env} {L a : Addr} {m mg mb : Str → Option Value} {s : Shared} {Q E : Value → Shared → Prop} {p : Program} {loose : List Str} {mean : ExcName → Option Value} {cn : Str} {cs : Scope} {ccd : Value} {cl : List (Str × Addr)} {gd : Option (List Code)} {l : Addr} {n : Nat} {x0 x1 x2 x3 x4 : Int} {t0 t1 t2 t3 t4 : Tok}
    (B : Below A₀ base outer h₀) (F : Fr h₀ L s.heap m) (X : (Mine.KL w.params).In h₀) (N : News h₀ L s.heap [(l, listOf #[.int x0 t0, .int x1 t1, .int x2 t2, .int x3 t3, .int x4 t4] n)]) (T : Top p loose mean mg mb h₀) (hk : cs.kind = .function) {z : Int} (hmax : MaxIs (pick (fun v => loC v [x0, x1, x2, x3, x4]) [x0, x1, x2, x3, x4]) z) (hmin : MinIs (pick (fun v => upC v [x0, x1, x2, x3, x4]) [x0, x1, x2, x3, x4]) z)
    (hret : ∀ t h' tk', Fr h₀ L h' m → News h₀ L h' [(l, listOf #[.int x0 t0, .int x1 t1, .int x2 t2, .int x3 t3, .int x4 t4] n)] → Keeps s.heap h' [(l, listOf #[.int x0 t0, .int x1 t1, .int x2 t2, .int x3 t3, .int x4 t4] n)] → Q (.int z t) { s with heap := h', toks := tk' }) :
    wpAny (model PySem.Challenge.rw_st0010_01.row.prog w) (ktrTop 500 500 gd cn cs L a ccd cl outer) (call (.ref 118) [.ref l]) Q E s := by
  revert X; k_fill; intro X
  refine wpAny_call ?_
  k_dflt (first | ((refine' enter_KC2 ?k1 ?k2 ?k3 ?k4 ?k5 ?kA ?kF ?kK ?k6 ?k7 ?k8 ?k9 ?kB ?kD ?_ ?c2 ?c3 ?c4; (case kA => exact rfl); (case kF => exact rfl); (case kK => assumption); (case k1 => k_asm); (case k2 => k_asm); (case k3 => k_asm); (case k4 => k_asm); (case k5 => k_asm); (case k6 => k_is); (case k7 => k_is); (case k8 => exact Nat.le_of_ble_eq_true rfl); (case k9 => exact BindsTo.of_eq rfl); (case kB => exact rfl); (case kD => decide +kernel); (case c2 => exact rfl); (case c3 => exact rfl); (case c4 => exact rfl); k_whole; intro g' L' h' tk' cells' FG' F' N' Y' B' X' T' kp' l1 hsz; (try k_lt l1); k_cells Y'; (try simp only [List.cons_append, List.nil_append] at N'); (try dsimp only); (try k_lift B'); (try k_fold))) | ((refine' enter_K ?k1 ?k2 ?k3 ?k4 ?k5 ?kA ?kF ?kK ?k6 ?k7 ?k8 ?k9 ?kB ?_ ?c2 ?c3 ?c4 ?c5; (case kA => exact rfl); (case kF => exact rfl); (case kK => assumption); (case k1 => k_asm); (case k2 => k_asm); (case k3 => k_asm); (case k4 => k_asm); (case k5 => k_asm); (case k6 => k_is); (case k7 => k_is); (case k8 => exact Nat.le_of_ble_eq_true rfl); (case k9 => exact BindsTo.of_eq rfl); (case c5 => decide); (case kB => exact locs rfl); (case c2 => exact rfl); (case c3 => exact rfl); (case c4 => exact rfl); k_whole; intro g' L' h' FG' F' N' B' X' T' kp' l1; (try k_lt l1); (try dsimp only); (try k_lift B'); (try k_fold))))
  repeat' ((fail_if_success (with_reducible show LeaveK h₀ _ _ _ _ _ _)); (fail_if_success (with_reducible show wpAny _ _ (execs [_, _, Stmt.If _ _ _ _, Stmt.If _ _ _ _] _) _ _ _)); first | (k_unfold; (try dsimp only)) | (k_end; wrow_close) | (first | ((with_reducible show wpAny _ _ (call (Value.builtin "min") _) _ _ _); with_reducible ((k_here; k_dflt (refine' min_z ?F ?N ?hm ?hi ?hz ?hh ?_; (case F => k_asm); (case N => k_asm); (case hm => k_mem); (case hi => assumption); (case hz => assumption); (case hh => rfl)); intro h' t' k' F' N'; (try k_sweep)))) | ((with_reducible show wpAny _ _ (call (Value.builtin "max") _) _ _ _); with_reducible ((k_here; k_dflt (refine' max_z ?F ?N ?hm ?hi ?hz ?hh ?_; (case F => k_asm); (case N => k_asm); (case hm => k_mem); (case hi => assumption); (case hz => assumption); (case hh => rfl)); intro h' t' k' F' N'; (try k_sweep)))) | ((with_reducible show wpAny _ _ (exec (Stmt.For (PySem.Expr.Name _ _) (PySem.Expr.Name _ _) _ _ _) _) _ _ _); with_reducible ((k_here; (rename Fr _ _ _ _ => lF'); (with_unfolding_all refine' For_turns lF' ?_; k_whole)))) | walk1) | (dsimp only; (first | ((with_reducible show wpAny _ _ (call (Value.builtin "min") _) _ _ _); with_reducible ((k_here; k_dflt (refine' min_z ?F ?N ?hm ?hi ?hz ?hh ?_; (case F => k_asm); (case N => k_asm); (case hm => k_mem); (case hi => assumption); (case hz => assumption); (case hh => rfl)); intro h' t' k' F' N'; (try k_sweep)))) | ((with_reducible show wpAny _ _ (call (Value.builtin "max") _) _ _ _); with_reducible ((k_here; k_dflt (refine' max_z ?F ?N ?hm ?hi ?hz ?hh ?_; (case F => k_asm); (case N => k_asm); (case hm => k_mem); (case hi => assumption); (case hz => assumption); (case hh => rfl)); intro h' t' k' F' N'; (try k_sweep)))) | ((with_reducible show wpAny _ _ (exec (Stmt.For (PySem.Expr.Name _ _) (PySem.Expr.Name _ _) _ _ _) _) _ _ _); with_reducible ((k_here; (rename Fr _ _ _ _ => lF'); (with_unfolding_all refine' For_turns lF' ?_; k_whole)))) | walk1)) | (leave1; walk_say "STEP leave1"; try dsimp only) | (show UnrEndW _ _ _ _ _ _; (first | ((with_reducible show wpAny _ _ (call (Value.builtin "min") _) _ _ _); with_reducible ((k_here; k_dflt (refine' min_z ?F ?N ?hm ?hi ?hz ?hh ?_; (case F => k_asm); (case N => k_asm); (case hm => k_mem); (case hi => assumption); (case hz => assumption); (case hh => rfl)); intro h' t' k' F' N'; (try k_sweep)))) | ((with_reducible show wpAny _ _ (call (Value.builtin "max") _) _ _ _); with_reducible ((k_here; k_dflt (refine' max_z ?F ?N ?hm ?hi ?hz ?hh ?_; (case F => k_asm); (case N => k_asm); (case hm => k_mem); (case hi => assumption); (case hz => assumption); (case hh => rfl)); intro h' t' k' F' N'; (try k_sweep)))) | ((with_reducible show wpAny _ _ (exec (Stmt.For (PySem.Expr.Name _ _) (PySem.Expr.Name _ _) _ _ _) _) _ _ _); with_reducible ((k_here; (rename Fr _ _ _ _ => lF'); (with_unfolding_all refine' For_turns lF' ?_; k_whole)))) | walk1)) | fail "no step")
  rename Fr _ _ _ _ => F9
  rename News _ _ _ _ => N9
  rename _ = Data.cell (some (Value.int x0 _)) => hc0
  refine mid_turn2 (us := []) (ls := []) rfl (by assumption) (frCast F9 (by
    intro y
    by_cases e1 : y = Str.ofString "ties"
    · subst e1; rfl
    by_cases e2 : y = Str.ofString "signs"
    · subst e2; rfl
    by_cases e3 : y = Str.ofString "upper"
    · subst e3; rfl
    by_cases e4 : y = Str.ofString "lower"
    · subst e4; rfl
    by_cases e5 : y = Str.ofString "numbers"
    · subst e5; rfl
    simp only [if_neg e1, if_neg e2, if_neg e3, if_neg e4, if_neg e5]
    first | done | rfl | (show (if y = Str.ofString "numbers" then _ else none) = none; rw [if_neg e5]))) (by assumption) N9 (by assumption) hc0 ⟨by omega, by omega, by omega, by omega⟩ .nil .nil (Nat.zero_le _) (Nat.zero_le _) (fun vt0 vs0 ua0 la0 un0 ln0 hh0 tk0 F0 N0 iu0 il0 lu0 ll0 => ?_)
  clear F9 N9
  have lv0 : ua0.length ≤ 1 := lu0
  have lw0 : la0.length ≤ 1 := ll0
  repeat' ((fail_if_success (with_reducible show LeaveK h₀ _ _ _ _ _ _)); (fail_if_success (with_reducible show wpAny _ _ (execs [_, _, Stmt.If _ _ _ _, Stmt.If _ _ _ _] _) _ _ _)); first | (k_unfold; (try dsimp only)) | (k_end; wrow_close) | (first | ((with_reducible show wpAny _ _ (call (Value.builtin "min") _) _ _ _); with_reducible ((k_here; k_dflt (refine' min_z ?F ?N ?hm ?hi ?hz ?hh ?_; (case F => k_asm); (case N => k_asm); (case hm => k_mem); (case hi => assumption); (case hz => assumption); (case hh => rfl)); intro h' t' k' F' N'; (try k_sweep)))) | ((with_reducible show wpAny _ _ (call (Value.builtin "max") _) _ _ _); with_reducible ((k_here; k_dflt (refine' max_z ?F ?N ?hm ?hi ?hz ?hh ?_; (case F => k_asm); (case N => k_asm); (case hm => k_mem); (case hi => assumption); (case hz => assumption); (case hh => rfl)); intro h' t' k' F' N'; (try k_sweep)))) | ((with_reducible show wpAny _ _ (exec (Stmt.For (PySem.Expr.Name _ _) (PySem.Expr.Name _ _) _ _ _) _) _ _ _); with_reducible ((k_here; (rename Fr _ _ _ _ => lF'); (with_unfolding_all refine' For_turns lF' ?_; k_whole)))) | walk1) | (dsimp only; (first | ((with_reducible show wpAny _ _ (call (Value.builtin "min") _) _ _ _); with_reducible ((k_here; k_dflt (refine' min_z ?F ?N ?hm ?hi ?hz ?hh ?_; (case F => k_asm); (case N => k_asm); (case hm => k_mem); (case hi => assumption); (case hz => assumption); (case hh => rfl)); intro h' t' k' F' N'; (try k_sweep)))) | ((with_reducible show wpAny _ _ (call (Value.builtin "max") _) _ _ _); with_reducible ((k_here; k_dflt (refine' max_z ?F ?N ?hm ?hi ?hz ?hh ?_; (case F => k_asm); (case N => k_asm); (case hm => k_mem); (case hi => assumption); (case hz => assumption); (case hh => rfl)); intro h' t' k' F' N'; (try k_sweep)))) | ((with_reducible show wpAny _ _ (exec (Stmt.For (PySem.Expr.Name _ _) (PySem.Expr.Name _ _) _ _ _) _) _ _ _); with_reducible ((k_here; (rename Fr _ _ _ _ => lF'); (with_unfolding_all refine' For_turns lF' ?_; k_whole)))) | walk1)) | (leave1; walk_say "STEP leave1"; try dsimp only) | (show UnrEndW _ _ _ _ _ _; (first | ((with_reducible show wpAny _ _ (call (Value.builtin "min") _) _ _ _); with_reducible ((k_here; k_dflt (refine' min_z ?F ?N ?hm ?hi ?hz ?hh ?_; (case F => k_asm); (case N => k_asm); (case hm => k_mem); (case hi => assumption); (case hz => assumption); (case hh => rfl)); intro h' t' k' F' N'; (try k_sweep)))) | ((with_reducible show wpAny _ _ (call (Value.builtin "max") _) _ _ _); with_reducible ((k_here; k_dflt (refine' max_z ?F ?N ?hm ?hi ?hz ?hh ?_; (case F => k_asm); (case N => k_asm); (case hm => k_mem); (case hi => assumption); (case hz => assumption); (case hh => rfl)); intro h' t' k' F' N'; (try k_sweep)))) | ((with_reducible show wpAny _ _ (exec (Stmt.For (PySem.Expr.Name _ _) (PySem.Expr.Name _ _) _ _ _) _) _ _ _); with_reducible ((k_here; (rename Fr _ _ _ _ => lF'); (with_unfolding_all refine' For_turns lF' ?_; k_whole)))) | walk1)) | fail "no step")
  rename Fr _ _ _ _ => F9
  rename News _ _ _ _ => N9
  rename _ = Data.cell (some (Value.int x1 _)) => hc1
  refine mid_turn2  rfl (by assumption) (frCast F9 (by
    intro y
    by_cases e1 : y = Str.ofString "ties"
    · subst e1; rfl
    by_cases e2 : y = Str.ofString "signs"
    · subst e2; rfl
    by_cases e3 : y = Str.ofString "upper"
    · subst e3; rfl
    by_cases e4 : y = Str.ofString "lower"
    · subst e4; rfl
    by_cases e5 : y = Str.ofString "numbers"
    · subst e5; rfl
    simp only [if_neg e1, if_neg e2, if_neg e3, if_neg e4, if_neg e5]
    first | done | rfl | (show (if y = Str.ofString "numbers" then _ else none) = none; rw [if_neg e5]))) (by assumption) N9 (by assumption) hc1 ⟨by omega, by omega, by omega, by omega⟩ iu0 il0 (by omega) (by omega) (fun vt1 vs1 ua1 la1 un1 ln1 hh1 tk1 F1 N1 iu1 il1 lu1 ll1 => ?_)
  clear F9 N9
  have lv1 : ua1.length ≤ 2 := by omega
  have lw1 : la1.length ≤ 2 := by omega
  repeat' ((fail_if_success (with_reducible show LeaveK h₀ _ _ _ _ _ _)); (fail_if_success (with_reducible show wpAny _ _ (execs [_, _, Stmt.If _ _ _ _, Stmt.If _ _ _ _] _) _ _ _)); first | (k_unfold; (try dsimp only)) | (k_end; wrow_close) | (first | ((with_reducible show wpAny _ _ (call (Value.builtin "min") _) _ _ _); with_reducible ((k_here; k_dflt (refine' min_z ?F ?N ?hm ?hi ?hz ?hh ?_; (case F => k_asm); (case N => k_asm); (case hm => k_mem); (case hi => assumption); (case hz => assumption); (case hh => rfl)); intro h' t' k' F' N'; (try k_sweep)))) | ((with_reducible show wpAny _ _ (call (Value.builtin "max") _) _ _ _); with_reducible ((k_here; k_dflt (refine' max_z ?F ?N ?hm ?hi ?hz ?hh ?_; (case F => k_asm); (case N => k_asm); (case hm => k_mem); (case hi => assumption); (case hz => assumption); (case hh => rfl)); intro h' t' k' F' N'; (try k_sweep)))) | ((with_reducible show wpAny _ _ (exec (Stmt.For (PySem.Expr.Name _ _) (PySem.Expr.Name _ _) _ _ _) _) _ _ _); with_reducible ((k_here; (rename Fr _ _ _ _ => lF'); (with_unfolding_all refine' For_turns lF' ?_; k_whole)))) | walk1) | (dsimp only; (first | ((with_reducible show wpAny _ _ (call (Value.builtin "min") _) _ _ _); with_reducible ((k_here; k_dflt (refine' min_z ?F ?N ?hm ?hi ?hz ?hh ?_; (case F => k_asm); (case N => k_asm); (case hm => k_mem); (case hi => assumption); (case hz => assumption); (case hh => rfl)); intro h' t' k' F' N'; (try k_sweep)))) | ((with_reducible show wpAny _ _ (call (Value.builtin "max") _) _ _ _); with_reducible ((k_here; k_dflt (refine' max_z ?F ?N ?hm ?hi ?hz ?hh ?_; (case F => k_asm); (case N => k_asm); (case hm => k_mem); (case hi => assumption); (case hz => assumption); (case hh => rfl)); intro h' t' k' F' N'; (try k_sweep)))) | ((with_reducible show wpAny _ _ (exec (Stmt.For (PySem.Expr.Name _ _) (PySem.Expr.Name _ _) _ _ _) _) _ _ _); with_reducible ((k_here; (rename Fr _ _ _ _ => lF'); (with_unfolding_all refine' For_turns lF' ?_; k_whole)))) | walk1)) | (leave1; walk_say "STEP leave1"; try dsimp only) | (show UnrEndW _ _ _ _ _ _; (first | ((with_reducible show wpAny _ _ (call (Value.builtin "min") _) _ _ _); with_reducible ((k_here; k_dflt (refine' min_z ?F ?N ?hm ?hi ?hz ?hh ?_; (case F => k_asm); (case N => k_asm); (case hm => k_mem); (case hi => assumption); (case hz => assumption); (case hh => rfl)); intro h' t' k' F' N'; (try k_sweep)))) | ((with_reducible show wpAny _ _ (call (Value.builtin "max") _) _ _ _); with_reducible ((k_here; k_dflt (refine' max_z ?F ?N ?hm ?hi ?hz ?hh ?_; (case F => k_asm); (case N => k_asm); (case hm => k_mem); (case hi => assumption); (case hz => assumption); (case hh => rfl)); intro h' t' k' F' N'; (try k_sweep)))) | ((with_reducible show wpAny _ _ (exec (Stmt.For (PySem.Expr.Name _ _) (PySem.Expr.Name _ _) _ _ _) _) _ _ _); with_reducible ((k_here; (rename Fr _ _ _ _ => lF'); (with_unfolding_all refine' For_turns lF' ?_; k_whole)))) | walk1)) | fail "no step")
  rename Fr _ _ _ _ => F9
  rename News _ _ _ _ => N9
  rename _ = Data.cell (some (Value.int x2 _)) => hc2
  refine mid_turn2  rfl (by assumption) (frCast F9 (by
    intro y
    by_cases e1 : y = Str.ofString "ties"
    · subst e1; rfl
    by_cases e2 : y = Str.ofString "signs"
    · subst e2; rfl
    by_cases e3 : y = Str.ofString "upper"
    · subst e3; rfl
    by_cases e4 : y = Str.ofString "lower"
    · subst e4; rfl
    by_cases e5 : y = Str.ofString "numbers"
    · subst e5; rfl
    simp only [if_neg e1, if_neg e2, if_neg e3, if_neg e4, if_neg e5]
    first | done | rfl | (show (if y = Str.ofString "numbers" then _ else none) = none; rw [if_neg e5]))) (by assumption) N9 (by assumption) hc2 ⟨by omega, by omega, by omega, by omega⟩ iu1 il1 (by omega) (by omega) (fun vt2 vs2 ua2 la2 un2 ln2 hh2 tk2 F2 N2 iu2 il2 lu2 ll2 => ?_)
  clear F9 N9
  have lv2 : ua2.length ≤ 3 := by omega
  have lw2 : la2.length ≤ 3 := by omega
  repeat' ((fail_if_success (with_reducible show LeaveK h₀ _ _ _ _ _ _)); (fail_if_success (with_reducible show wpAny _ _ (execs [_, _, Stmt.If _ _ _ _, Stmt.If _ _ _ _] _) _ _ _)); first | (k_unfold; (try dsimp only)) | (k_end; wrow_close) | (first | ((with_reducible show wpAny _ _ (call (Value.builtin "min") _) _ _ _); with_reducible ((k_here; k_dflt (refine' min_z ?F ?N ?hm ?hi ?hz ?hh ?_; (case F => k_asm); (case N => k_asm); (case hm => k_mem); (case hi => assumption); (case hz => assumption); (case hh => rfl)); intro h' t' k' F' N'; (try k_sweep)))) | ((with_reducible show wpAny _ _ (call (Value.builtin "max") _) _ _ _); with_reducible ((k_here; k_dflt (refine' max_z ?F ?N ?hm ?hi ?hz ?hh ?_; (case F => k_asm); (case N => k_asm); (case hm => k_mem); (case hi => assumption); (case hz => assumption); (case hh => rfl)); intro h' t' k' F' N'; (try k_sweep)))) | ((with_reducible show wpAny _ _ (exec (Stmt.For (PySem.Expr.Name _ _) (PySem.Expr.Name _ _) _ _ _) _) _ _ _); with_reducible ((k_here; (rename Fr _ _ _ _ => lF'); (with_unfolding_all refine' For_turns lF' ?_; k_whole)))) | walk1) | (dsimp only; (first | ((with_reducible show wpAny _ _ (call (Value.builtin "min") _) _ _ _); with_reducible ((k_here; k_dflt (refine' min_z ?F ?N ?hm ?hi ?hz ?hh ?_; (case F => k_asm); (case N => k_asm); (case hm => k_mem); (case hi => assumption); (case hz => assumption); (case hh => rfl)); intro h' t' k' F' N'; (try k_sweep)))) | ((with_reducible show wpAny _ _ (call (Value.builtin "max") _) _ _ _); with_reducible ((k_here; k_dflt (refine' max_z ?F ?N ?hm ?hi ?hz ?hh ?_; (case F => k_asm); (case N => k_asm); (case hm => k_mem); (case hi => assumption); (case hz => assumption); (case hh => rfl)); intro h' t' k' F' N'; (try k_sweep)))) | ((with_reducible show wpAny _ _ (exec (Stmt.For (PySem.Expr.Name _ _) (PySem.Expr.Name _ _) _ _ _) _) _ _ _); with_reducible ((k_here; (rename Fr _ _ _ _ => lF'); (with_unfolding_all refine' For_turns lF' ?_; k_whole)))) | walk1)) | (leave1; walk_say "STEP leave1"; try dsimp only) | (show UnrEndW _ _ _ _ _ _; (first | ((with_reducible show wpAny _ _ (call (Value.builtin "min") _) _ _ _); with_reducible ((k_here; k_dflt (refine' min_z ?F ?N ?hm ?hi ?hz ?hh ?_; (case F => k_asm); (case N => k_asm); (case hm => k_mem); (case hi => assumption); (case hz => assumption); (case hh => rfl)); intro h' t' k' F' N'; (try k_sweep)))) | ((with_reducible show wpAny _ _ (call (Value.builtin "max") _) _ _ _); with_reducible ((k_here; k_dflt (refine' max_z ?F ?N ?hm ?hi ?hz ?hh ?_; (case F => k_asm); (case N => k_asm); (case hm => k_mem); (case hi => assumption); (case hz => assumption); (case hh => rfl)); intro h' t' k' F' N'; (try k_sweep)))) | ((with_reducible show wpAny _ _ (exec (Stmt.For (PySem.Expr.Name _ _) (PySem.Expr.Name _ _) _ _ _) _) _ _ _); with_reducible ((k_here; (rename Fr _ _ _ _ => lF'); (with_unfolding_all refine' For_turns lF' ?_; k_whole)))) | walk1)) | fail "no step")
  rename Fr _ _ _ _ => F9
  rename News _ _ _ _ => N9
  rename _ = Data.cell (some (Value.int x3 _)) => hc3
  refine mid_turn2  rfl (by assumption) (frCast F9 (by
    intro y
    by_cases e1 : y = Str.ofString "ties"
    · subst e1; rfl
    by_cases e2 : y = Str.ofString "signs"
    · subst e2; rfl
    by_cases e3 : y = Str.ofString "upper"
    · subst e3; rfl
    by_cases e4 : y = Str.ofString "lower"
    · subst e4; rfl
    by_cases e5 : y = Str.ofString "numbers"
    · subst e5; rfl
    simp only [if_neg e1, if_neg e2, if_neg e3, if_neg e4, if_neg e5]
    first | done | rfl | (show (if y = Str.ofString "numbers" then _ else none) = none; rw [if_neg e5]))) (by assumption) N9 (by assumption) hc3 ⟨by omega, by omega, by omega, by omega⟩ iu2 il2 (by omega) (by omega) (fun vt3 vs3 ua3 la3 un3 ln3 hh3 tk3 F3 N3 iu3 il3 lu3 ll3 => ?_)
  clear F9 N9
  have lv3 : ua3.length ≤ 4 := by omega
  have lw3 : la3.length ≤ 4 := by omega
  repeat' ((fail_if_success (with_reducible show LeaveK h₀ _ _ _ _ _ _)); (fail_if_success (with_reducible show wpAny _ _ (execs [_, _, Stmt.If _ _ _ _, Stmt.If _ _ _ _] _) _ _ _)); first | (k_unfold; (try dsimp only)) | (k_end; wrow_close) | (first | ((with_reducible show wpAny _ _ (call (Value.builtin "min") _) _ _ _); with_reducible ((k_here; k_dflt (refine' min_z ?F ?N ?hm ?hi ?hz ?hh ?_; (case F => k_asm); (case N => k_asm); (case hm => k_mem); (case hi => assumption); (case hz => assumption); (case hh => rfl)); intro h' t' k' F' N'; (try k_sweep)))) | ((with_reducible show wpAny _ _ (call (Value.builtin "max") _) _ _ _); with_reducible ((k_here; k_dflt (refine' max_z ?F ?N ?hm ?hi ?hz ?hh ?_; (case F => k_asm); (case N => k_asm); (case hm => k_mem); (case hi => assumption); (case hz => assumption); (case hh => rfl)); intro h' t' k' F' N'; (try k_sweep)))) | ((with_reducible show wpAny _ _ (exec (Stmt.For (PySem.Expr.Name _ _) (PySem.Expr.Name _ _) _ _ _) _) _ _ _); with_reducible ((k_here; (rename Fr _ _ _ _ => lF'); (with_unfolding_all refine' For_turns lF' ?_; k_whole)))) | walk1) | (dsimp only; (first | ((with_reducible show wpAny _ _ (call (Value.builtin "min") _) _ _ _); with_reducible ((k_here; k_dflt (refine' min_z ?F ?N ?hm ?hi ?hz ?hh ?_; (case F => k_asm); (case N => k_asm); (case hm => k_mem); (case hi => assumption); (case hz => assumption); (case hh => rfl)); intro h' t' k' F' N'; (try k_sweep)))) | ((with_reducible show wpAny _ _ (call (Value.builtin "max") _) _ _ _); with_reducible ((k_here; k_dflt (refine' max_z ?F ?N ?hm ?hi ?hz ?hh ?_; (case F => k_asm); (case N => k_asm); (case hm => k_mem); (case hi => assumption); (case hz => assumption); (case hh => rfl)); intro h' t' k' F' N'; (try k_sweep)))) | ((with_reducible show wpAny _ _ (exec (Stmt.For (PySem.Expr.Name _ _) (PySem.Expr.Name _ _) _ _ _) _) _ _ _); with_reducible ((k_here; (rename Fr _ _ _ _ => lF'); (with_unfolding_all refine' For_turns lF' ?_; k_whole)))) | walk1)) | (leave1; walk_say "STEP leave1"; try dsimp only) | (show UnrEndW _ _ _ _ _ _; (first | ((with_reducible show wpAny _ _ (call (Value.builtin "min") _) _ _ _); with_reducible ((k_here; k_dflt (refine' min_z ?F ?N ?hm ?hi ?hz ?hh ?_; (case F => k_asm); (case N => k_asm); (case hm => k_mem); (case hi => assumption); (case hz => assumption); (case hh => rfl)); intro h' t' k' F' N'; (try k_sweep)))) | ((with_reducible show wpAny _ _ (call (Value.builtin "max") _) _ _ _); with_reducible ((k_here; k_dflt (refine' max_z ?F ?N ?hm ?hi ?hz ?hh ?_; (case F => k_asm); (case N => k_asm); (case hm => k_mem); (case hi => assumption); (case hz => assumption); (case hh => rfl)); intro h' t' k' F' N'; (try k_sweep)))) | ((with_reducible show wpAny _ _ (exec (Stmt.For (PySem.Expr.Name _ _) (PySem.Expr.Name _ _) _ _ _) _) _ _ _); with_reducible ((k_here; (rename Fr _ _ _ _ => lF'); (with_unfolding_all refine' For_turns lF' ?_; k_whole)))) | walk1)) | fail "no step")
  rename Fr _ _ _ _ => F9
  rename News _ _ _ _ => N9
  rename _ = Data.cell (some (Value.int x4 _)) => hc4
  refine mid_turn2  rfl (by assumption) (frCast F9 (by
    intro y
    by_cases e1 : y = Str.ofString "ties"
    · subst e1; rfl
    by_cases e2 : y = Str.ofString "signs"
    · subst e2; rfl
    by_cases e3 : y = Str.ofString "upper"
    · subst e3; rfl
    by_cases e4 : y = Str.ofString "lower"
    · subst e4; rfl
    by_cases e5 : y = Str.ofString "numbers"
    · subst e5; rfl
    simp only [if_neg e1, if_neg e2, if_neg e3, if_neg e4, if_neg e5]
    first | done | rfl | (show (if y = Str.ofString "numbers" then _ else none) = none; rw [if_neg e5]))) (by assumption) N9 (by assumption) hc4 ⟨by omega, by omega, by omega, by omega⟩ iu3 il3 (by omega) (by omega) (fun vt4 vs4 ua4 la4 un4 ln4 hh4 tk4 F4 N4 iu4 il4 lu4 ll4 => ?_)
  clear F9 N9
  have lv4 : ua4.length ≤ 5 := by omega
  have lw4 : la4.length ≤ 5 := by omega
  change IntsAre ua4 (pick (fun v => upC v [x0, x1, x2, x3, x4]) [x0, x1, x2, x3, x4]) at iu4
  change IntsAre la4 (pick (fun v => loC v [x0, x1, x2, x3, x4]) [x0, x1, x2, x3, x4]) at il4
  clear iu0 iu1 iu2 iu3 il0 il1 il2 il3
  have hnl := maxNe hmax
  have hnu := minNe hmin
  repeat' ((fail_if_success (with_reducible show LeaveK h₀ _ _ _ _ _ _)); (fail_if_success (with_reducible show wpAny _ _ (execs [_, _, Stmt.If _ _ _ _, Stmt.If _ _ _ _] _) _ _ _)); first | (k_unfold; (try dsimp only)) | (k_end; wrow_close) | (first | ((with_reducible show wpAny _ _ (call (Value.builtin "min") _) _ _ _); with_reducible ((k_here; k_dflt (refine' min_z ?F ?N ?hm ?hi ?hz ?hh ?_; (case F => k_asm); (case N => k_asm); (case hm => k_mem); (case hi => assumption); (case hz => assumption); (case hh => rfl)); intro h' t' k' F' N'; (try k_sweep)))) | ((with_reducible show wpAny _ _ (call (Value.builtin "max") _) _ _ _); with_reducible ((k_here; k_dflt (refine' max_z ?F ?N ?hm ?hi ?hz ?hh ?_; (case F => k_asm); (case N => k_asm); (case hm => k_mem); (case hi => assumption); (case hz => assumption); (case hh => rfl)); intro h' t' k' F' N'; (try k_sweep)))) | ((with_reducible show wpAny _ _ (exec (Stmt.For (PySem.Expr.Name _ _) (PySem.Expr.Name _ _) _ _ _) _) _ _ _); with_reducible ((k_here; (rename Fr _ _ _ _ => lF'); (with_unfolding_all refine' For_turns lF' ?_; k_whole)))) | walk1) | (dsimp only; (first | ((with_reducible show wpAny _ _ (call (Value.builtin "min") _) _ _ _); with_reducible ((k_here; k_dflt (refine' min_z ?F ?N ?hm ?hi ?hz ?hh ?_; (case F => k_asm); (case N => k_asm); (case hm => k_mem); (case hi => assumption); (case hz => assumption); (case hh => rfl)); intro h' t' k' F' N'; (try k_sweep)))) | ((with_reducible show wpAny _ _ (call (Value.builtin "max") _) _ _ _); with_reducible ((k_here; k_dflt (refine' max_z ?F ?N ?hm ?hi ?hz ?hh ?_; (case F => k_asm); (case N => k_asm); (case hm => k_mem); (case hi => assumption); (case hz => assumption); (case hh => rfl)); intro h' t' k' F' N'; (try k_sweep)))) | ((with_reducible show wpAny _ _ (exec (Stmt.For (PySem.Expr.Name _ _) (PySem.Expr.Name _ _) _ _ _) _) _ _ _); with_reducible ((k_here; (rename Fr _ _ _ _ => lF'); (with_unfolding_all refine' For_turns lF' ?_; k_whole)))) | walk1)) | (leave1; walk_say "STEP leave1"; try dsimp only) | (show UnrEndW _ _ _ _ _ _; (first | ((with_reducible show wpAny _ _ (call (Value.builtin "min") _) _ _ _); with_reducible ((k_here; k_dflt (refine' min_z ?F ?N ?hm ?hi ?hz ?hh ?_; (case F => k_asm); (case N => k_asm); (case hm => k_mem); (case hi => assumption); (case hz => assumption); (case hh => rfl)); intro h' t' k' F' N'; (try k_sweep)))) | ((with_reducible show wpAny _ _ (call (Value.builtin "max") _) _ _ _); with_reducible ((k_here; k_dflt (refine' max_z ?F ?N ?hm ?hi ?hz ?hh ?_; (case F => k_asm); (case N => k_asm); (case hm => k_mem); (case hi => assumption); (case hz => assumption); (case hh => rfl)); intro h' t' k' F' N'; (try k_sweep)))) | ((with_reducible show wpAny _ _ (exec (Stmt.For (PySem.Expr.Name _ _) (PySem.Expr.Name _ _) _ _ _) _) _ _ _); with_reducible ((k_here; (rename Fr _ _ _ _ => lF'); (with_unfolding_all refine' For_turns lF' ?_; k_whole)))) | walk1)) | fail "no step")
  · rename z ≠ z => hz
    exact absurd rfl hz
  · dsimp only
    rename Keeps s.heap _ _ => kp
    refine leave_K (by assumption) (by assumption) kp ?_
    intro kF kN kK
    exact hret _ _ _ kF (News.sub kN (mem_one (by k_mem))) kK
end
-- X1
structure LxP where
  lx : Addr
  dl : Addr
  pb : Addr
  fn : Addr
  cc : Addr
  st : Addr
  ds : Addr
  sg : Addr
  ce : Addr
  pb2 : Addr
  k1 : Tok
  k2 : Tok
  k3 : Tok
  k4 : Tok
  k5 : Tok
  j1 : Tok
  j2 : Tok
  j3 : Tok
  j4 : Tok
  j5 : Tok
  j6 : Tok
  j7 : Tok
  tq : Tok
  qual : Str
  pm : Value
  ctv : Value
  oc : Obj
  oce : Obj
  ocv : Array Value
  lamP : Arguments
  lamB : Expr
  lamS : Scope
structure LxOk (c : LxP) : Prop where
  ho : @LT.lt Nat _ c.ce c.sg ∧ @LT.lt Nat _ c.sg c.ds ∧ @LT.lt Nat _ c.ds c.st ∧ @LT.lt Nat _ c.st c.cc ∧ @LT.lt Nat _ c.cc c.fn ∧ @LT.lt Nat _ c.fn c.dl ∧ @LT.lt Nat _ c.dl c.lx ∧ @LT.lt Nat _ c.lx c.pb
  hoc : c.oc.data = .fields c.ocv
  hoq : c.ocv[1]? = some (.str c.qual c.tq)
  hce : c.oce.data = .cell (some (.ref c.sg))
  hlam : LamIs c.lamP c.lamB c.lamS
noncomputable def lexM (w : World) (c : LxP) : List (Addr × Obj) := [(c.fn, kla_obj (Str.ofString "<lambda>") c.qual c.lamP c.lamB c.lamS [(Str.ofString "signs", c.ce)] c.pm c.cc c.ctv), (c.cc, c.oc), (c.st, instObj 59 c.ds), (c.ds, dictOf [{ hash := PyData.keyHash w.params (Str.ofString "lineno"), key := Value.str (Str.ofString "lineno") c.j1, val := Value.int 1 c.j2 }, { hash := PyData.keyHash w.params (Str.ofString "instream"), key := Value.str (Str.ofString "instream") c.j3, val := Value.none }, { hash := PyData.keyHash w.params (Str.ofString "whitespace"), key := Value.str (Str.ofString "whitespace") c.j4, val := Value.str (Str.ofString "\n\t\x0d ") c.j5 }, { hash := PyData.keyHash w.params (Str.ofString "pushback"), key := Value.str (Str.ofString "pushback") c.j6, val := Value.ref c.pb2 }, { hash := PyData.keyHash w.params (Str.ofString "read"), key := Value.str (Str.ofString "read") c.j7, val := Value.ref c.fn }] 5)]
noncomputable def lexR (w : World) (c : LxP) (ps : List Value) (pn : Nat) (vs : List Value) (sn : Nat) : List (Addr × Obj) := (c.pb, listOf ps.toArray pn) :: (lexM w c ++ [(c.sg, listOf vs.toArray sn), (c.ce, c.oce)])
noncomputable def lexD (w : World) (c : LxP) (no : Int) (tno : Tok) : Addr × Obj := (c.dl, dictOf [{ hash := PyData.keyHash w.params (Str.ofString "lineno"), key := Value.str (Str.ofString "lineno") c.k1, val := Value.int no tno }, { hash := PyData.keyHash w.params (Str.ofString "instream"), key := Value.str (Str.ofString "instream") c.k2, val := Value.ref c.st }, { hash := PyData.keyHash w.params (Str.ofString "whitespace"), key := Value.str (Str.ofString "whitespace") c.k3, val := Value.str (Str.ofString "\n\t\x0d ") c.k4 }, { hash := PyData.keyHash w.params (Str.ofString "pushback"), key := Value.str (Str.ofString "pushback") c.k5, val := Value.ref c.pb }] 4)
/-- the lexer's objects -/
noncomputable def lexL (w : World) (c : LxP) (no : Int) (tno : Tok) (ps : List Value) (pn : Nat) (vs : List Value) (sn : Nat) : List (Addr × Obj) := (c.lx, instObj 59 c.dl) :: lexD w c no tno :: lexR w c ps pn vs sn
noncomputable def LxAt (w : World) (c : LxP) (no : Int) (pws : List (List Nat)) (r : List Nat) (l : List (Addr × Obj)) : Prop := ∃ tno ps pn vs sn, l = lexL w c no tno ps pn vs sn ∧ Words ps pws ∧ Signs vs r.reverse
noncomputable def Off (c : LxP) (led : List (Addr × Obj)) : Prop := ∀ q ∈ led, c.dl ≠ q.1 ∧ c.pb ≠ q.1 ∧ c.sg ≠ q.1
theorem Off.cons {c : LxP} {p : Addr × Obj} {led : List (Addr × Obj)} (h : Off c led) (hp : c.dl ≠ p.1 ∧ c.pb ≠ p.1 ∧ c.sg ≠ p.1) : Off c (p :: led) := fun q hq => by
  rcases List.mem_cons.mp hq with rfl | hq
  · exact hp
  · exact h q hq
theorem Off.above {c : LxP} (ok : LxOk c) {a : Addr} (h : @LT.lt Nat _ c.pb a) : c.dl ≠ a ∧ c.pb ≠ a ∧ c.sg ≠ a := by
  have := ok.ho
  exact ⟨show @Ne Nat _ _ by omega, show @Ne Nat _ _ by omega, show @Ne Nat _ _ by omega⟩
theorem Off.below {c : LxP} (ok : LxOk c) {a : Addr} (h : @LT.lt Nat _ a c.ce) : c.dl ≠ a ∧ c.pb ≠ a ∧ c.sg ≠ a := by
  have := ok.ho
  exact ⟨show @Ne Nat _ _ by omega, show @Ne Nat _ _ by omega, show @Ne Nat _ _ by omega⟩
theorem Off.app {c : LxP} {a b : List (Addr × Obj)} (ha : Off c a) (hb : Off c b) : Off c (a ++ b) := fun q hq => (List.mem_append.mp hq).elim (ha q) (hb q)
theorem lex_addr {w : World} {c : LxP} {no no' : Int} {tno tno' : Tok} {ps ps' vs vs' : List Value} {pn pn' sn sn' : Nat} : (lexL w c no tno ps pn vs sn).map Prod.fst = (lexL w c no' tno' ps' pn' vs' sn').map Prod.fst := rfl
theorem lex_same {w : World} {c : LxP} {no no' : Int} {tno tno' : Tok} {ps ps' vs vs' : List Value} {pn pn' sn sn' : Nat} {p : Addr × Obj} (hp : p ∈ lexL w c no tno ps pn vs sn) : p ∈ lexL w c no' tno' ps' pn' vs' sn' ∨ p.1 = c.dl ∨ p.1 = c.pb ∨ p.1 = c.sg := by
  rcases List.mem_cons.mp hp with rfl | hp
  · exact .inl (.head _)
  rcases List.mem_cons.mp hp with rfl | hp
  · exact .inr (.inl rfl)
  rcases List.mem_cons.mp hp with rfl | hp
  · exact .inr (.inr (.inl rfl))
  rcases List.mem_append.mp hp with hp | hp
  · exact .inl (.tail _ (.tail _ (.tail _ (List.mem_append_left _ hp))))
  rcases List.mem_cons.mp hp with rfl | hp
  · exact .inr (.inr (.inr rfl))
  · exact .inl (.tail _ (.tail _ (.tail _ (List.mem_append_right _ (.tail _ hp)))))
theorem keeps_but {h₀ h h' : Heap} {L : Addr} {own own' rest : List (Addr × Obj)} (k : Keeps h h' own) (N : News h₀ L h own) (N' : News h₀ L h' own') (R : News h₀ L h rest) (hs : ∀ p ∈ own, p ∈ own' ∨ ∀ q ∈ rest, p.1 ≠ q.1) : News h₀ L h' rest := fun q hq => by
  refine ⟨?_, (R q hq).2⟩
  by_cases e : ∃ p ∈ own, p.1 = q.1
  · obtain ⟨p, hp, e⟩ := e
    rcases hs p hp with h0 | h0
    · have h1 := (N p hp).1
      have h2 := (R q hq).1
      rw [e] at h1
      have h3 := Option.some.inj (h1.symm.trans h2)
      have h4 := (N' p h0).1
      rw [e, h3] at h4
      exact h4
    · exact absurd e (h0 q hq)
  · exact k _ _ (R q hq).1 fun p hp e' => e ⟨p, hp, e'⟩
theorem lex_rest {w : World} {c : LxP} {no no' : Int} {tno tno' : Tok} {ps ps' vs vs' : List Value} {pn pn' sn sn' : Nat} {h₀ h h' : Heap} {L : Addr} {led : List (Addr × Obj)} (k : Keeps h h' (lexL w c no tno ps pn vs sn)) (N : News h₀ L h (lexL w c no tno ps pn vs sn ++ led)) (N' : News h₀ L h' (lexL w c no' tno' ps' pn' vs' sn')) (o : Off c led) : News h₀ L h' (lexL w c no' tno' ps' pn' vs' sn' ++ led) := by
  have NL : News h₀ L h (lexL w c no tno ps pn vs sn) := News.sub N fun p hp => List.mem_append_left _ hp
  refine News.app N' (keeps_but k NL N' (News.sub N fun p hp => List.mem_append_right _ hp) fun p hp => ?_)
  rcases lex_same hp with h | h | h | h
  · exact .inl h
  · exact .inr fun q hq => h ▸ (o q hq).1
  · exact .inr fun q hq => h ▸ (o q hq).2.1
  · exact .inr fun q hq => h ▸ (o q hq).2.2
set_option maxHeartbeats 8000000 in
theorem get_pack {w : World} {A₀ : Around} {base h₀ : Heap} {outer : List Env} {L a : Addr} {m mg mb : Str → Option Value} {s : Shared} {Q E : Value → Shared → Prop} {p : Program} {loose : List Str} {mean : ExcName → Option Value} {cn : Str} {cs : Scope} {ccd : Value} {cl : List (Str × Addr)}  {A : Around} {c : LxP} {l led : List (Addr × Obj)} {no : Int} {pws pws' : List (List Nat)} {r r' tok : List Nat} (ok : LxOk c) (C : CodeHd base 86 82) (hl : LxAt w c no pws r l)
    (B : Below A₀ base outer h₀) (F : Fr h₀ L s.heap m) (X : (Mine.KL w.params).In h₀) (T : Top p loose mean mg mb h₀) (hk : cs.kind = .function) (N : News h₀ L s.heap (l ++ led)) (off : Off c led) (hz : pws.length ≤ 1000000) (hr : r.length ≤ 10000) (hgo : nextTok (pws, r) = some (tok, pws', r'))
    (hret : ∀ t l' h' tk', LxAt w c (no + nls r - nls r') pws' r' l' → l'.map Prod.fst = l.map Prod.fst → Fr h₀ L h' m → News h₀ L h' (l' ++ led) → Q (.str ⟨tok.toArray⟩ t) { s with heap := h', toks := tk' })
    (hA1 : A.handled = none) (hA2 : A.depth ≤ 550) (hA3 : A.frames = some (envX cn cs L a ccd cl :: outer)) (hA5 : A.units ≤ 550) :
    wpAny (model PySem.Challenge.rw_st0010_01.row.prog w) A (call (.ref 49) [.ref c.lx]) Q E s := by
  obtain ⟨tno, ps, pn, vs, sn, rfl, hp, hv⟩ := hl
  have hpl := hp.length
  refine wpAny_call (codeAny_le (A' := ktrTop 550 550 A.guards cn cs L a ccd cl outer) (spec_get (pb2 := c.pb2) B F X (News.sub N fun p hp => List.mem_append_left _ hp) T hk ok.ho ok.hoc ok.hoq ok.hce ok.hlam C hp (by omega) hv hr hgo fun t tno' pn' sn' ps' us' h' tk' hp' hv' F' N' K' => ?_) hA1 hA2 hA3 rfl hA5)
  exact hret t (lexL w c (no + nls r - nls r') tno' ps' pn' us' sn') h' tk' ⟨tno', ps', pn', us', sn', rfl, hp', hv'⟩ lex_addr F' (lex_rest K' N N' off)
-- X2
section
inductive Reads : List (List Nat) × List Nat → List (List Nat) → List (List Nat) × List Nat → Prop
  | stop {σ σ' : List (List Nat) × List Nat} {w : List Nat} : nextTok σ = some (w, σ') → num w = 0 → Reads σ [] σ'
  | go {σ σ1 σ' : List (List Nat) × List Nat} {w : List Nat} {r : List (List Nat)} : nextTok σ = some (w, σ1) → num w ≠ 0 → Reads σ1 r σ' → Reads σ (w :: r) σ'
theorem bareGo_len : ∀ (r : List Nat) (b : Bool) (tk tok r' : List Nat), bareGo r b tk = some (tok, r') → r'.length ≤ r.length
  | [], _, _, _, _, h => nomatch h
  | c :: r, true, tk, tok, r', h => Nat.le_succ_of_le (bareGo_len r false _ tok r' h)
  | c :: r, false, tk, tok, r', h => by
    unfold bareGo at h
    split at h
    · cases h; exact Nat.le_succ _
    · split at h
      · exact Nat.le_succ_of_le (bareGo_len r true _ tok r' h)
      · exact Nat.le_succ_of_le (bareGo_len r false _ tok r' h)
theorem quoteGo_len : ∀ (r : List Nat) (b : Bool) (tk tok r' : List Nat), quoteGo r b tk = some (tok, r') → r'.length ≤ r.length
  | [], _, _, _, _, h => nomatch h
  | c :: r, true, tk, tok, r', h => Nat.le_succ_of_le (quoteGo_len r false _ tok r' h)
  | c :: r, false, tk, tok, r', h => by
    unfold quoteGo at h
    split at h
    · cases h; exact Nat.le_succ _
    · split at h
      · exact Nat.le_succ_of_le (quoteGo_len r true _ tok r' h)
      · exact Nat.le_succ_of_le (quoteGo_len r false _ tok r' h)
theorem tokGo_len : ∀ (r tok r' : List Nat), tokGo r = some (tok, r') → r'.length ≤ r.length
  | [], _, _, h => nomatch h
  | c :: r, tok, r', h => by
    unfold tokGo at h
    split at h
    · exact Nat.le_succ_of_le (tokGo_len r tok r' h)
    · split at h
      · exact Nat.le_succ_of_le (quoteGo_len r false _ tok r' h)
      · split at h
        · exact Nat.le_succ_of_le (bareGo_len r true _ tok r' h)
        · exact Nat.le_succ_of_le (bareGo_len r false _ tok r' h)
theorem nextTok_len {pws pws' : List (List Nat)} {rest rest' tok : List Nat} (h : nextTok (pws, rest) = some (tok, pws', rest')) : pws'.length ≤ pws.length ∧ rest'.length ≤ rest.length := by
  cases pws with
  | cons w ws =>
    simp only [nextTok, Option.some.injEq, Prod.mk.injEq] at h
    obtain ⟨_, rfl, rfl⟩ := h
    exact ⟨Nat.le_succ _, Nat.le_refl _⟩
  | nil =>
    cases e : tokGo rest with
    | none => simp [nextTok, e] at h
    | some q =>
      obtain ⟨w, r⟩ := q
      simp only [nextTok, e, Option.some.injEq, Prod.mk.injEq] at h
      obtain ⟨_, rfl, rfl⟩ := h
      exact ⟨Nat.le_refl _, tokGo_len _ _ _ e⟩
/-- what is still to be read behind a word that is read already -/
noncomputable def Tail (w : List Nat) (σ : List (List Nat) × List Nat) (ops : List (List Nat)) (σ' : List (List Nat) × List Nat) : Prop :=
  (num w = 0 ∧ ops = [] ∧ σ = σ') ∨ (num w ≠ 0 ∧ ∃ r, ops = w :: r ∧ Reads σ r σ')
theorem Reads.tail {σ σ' : List (List Nat) × List Nat} {ops : List (List Nat)} (h : Reads σ ops σ') : ∃ w σ1, nextTok σ = some (w, σ1) ∧ Tail w σ1 ops σ' := by
  cases h with
  | stop h1 h2 => exact ⟨_, _, h1, .inl ⟨h2, rfl, rfl⟩⟩
  | go h1 h2 h3 => exact ⟨_, _, h1, .inr ⟨h2, _, rfl, h3⟩⟩
noncomputable def linesFn : Option (Scope × List Stmt) := match (PySem.Challenge.pw_st0010_01.main.body.drop 62 : List Stmt) with
  | Stmt.FunctionDef _ _ (_ :: Stmt.For _ _ q _ _ :: _) _ _ _ sc _ _ _ :: _ => some (sc, q)
  | _ => none
noncomputable def lnB1 : Option (Scope × Stmt) := match linesFn with
  | some (sc, _ :: q :: _) => some (sc, q)
  | _ => none
noncomputable def lnWh : Option (Scope × Stmt) := match linesFn with
  | some (sc, _ :: _ :: q :: _) => some (sc, q)
  | _ => none
noncomputable def lnW0 : Option (Scope × Stmt) := match lnWh with
  | some (sc, Stmt.While _ (q :: _) _ _) => some (sc, q)
  | _ => none
noncomputable def lnW1 : Option (Scope × Stmt) := match lnWh with
  | some (sc, Stmt.While _ (_ :: q :: _) _ _) => some (sc, q)
  | _ => none
noncomputable def lnTest : Option (Scope × Expr) := match lnWh with
  | some (sc, Stmt.While q _ _ _) => some (sc, q)
  | _ => none
local macro_rules | `(tactic| k_all) => `(tactic| with_reducible assumption)
set_option maxHeartbeats 8000000 in
theorem get_first {w : World} {A₀ : Around} {base g : Heap} {outer0 : List Env} {L0 L1 a0 : Addr} {mg mb : Str → Option Value} {s : Shared} {Q : Flow → Shared → Prop} {E : Value → Shared → Prop} {p : Program} {loose : List Str} {mean : ExcName → Option Value} {cn0 nm : Str} {cs0 : Scope} {ccd0 : Value} {cl0 : List (Str × Addr)} {gd : Option (List Code)} {sc : Scope} {m : Str → Option Value} {led : List (Addr × Obj)} {c : LxP} {l : List (Addr × Obj)} {no : Int} {pws pws' : List (List Nat)} {r r' tok : List Nat} {S : Stmt}
    (hP : lnB1 = some (sc, S)) (B1 : Below A₀ base (envX cn0 cs0 L0 a0 ccd0 cl0 :: outer0) g) (F0 : Fr g L1 s.heap m) (X1 : (Mine.KL w.params).In g) (T1 : Top p loose mean mg mb g) (N0 : News g L1 s.heap (l ++ led)) (hlx : m (Str.ofString "lexer") = some (.ref c.lx)) (ok : LxOk c) (C : CodeHd base 86 82) (hl : LxAt w c no pws r l) (off : Off c led) (hz : pws.length ≤ 1000000) (hr : r.length ≤ 10000) (hgo : nextTok (pws, r) = some (tok, pws', r'))
    (hret : ∀ t l' h' tk', LxAt w c (no + nls r - nls r') pws' r' l' → l'.map Prod.fst = l.map Prod.fst → Fr g L1 h' (fun y => if y = Str.ofString "word" then some (.str ⟨tok.toArray⟩ t) else m y) → News g L1 h' (l' ++ led) → Q .next { s with heap := h', toks := tk' }) :
    wpAny (model PySem.Challenge.rw_st0010_01.row.prog w) ((ktrTop 500 500 gd cn0 cs0 L0 a0 ccd0 cl0 outer0).deeper (envOf nm sc L1 113 (.ref 112))) (exec S (envOf nm sc L1 113 (.ref 112))) Q E s := by
  obtain ⟨h0, g0, r9, k0, os0⟩ := s
  dsimp only at F0 N0 hret ⊢
  conv at hP => lhs; whnf
  injection hP with hP
  injection hP with hP1 hP2
  subst hP1 hP2
  revert X1; k_fill; intro X1
  have hl2 := hl
  obtain ⟨tno, ps, pn, vs, sn, hle, hp, hv⟩ := hl
  have N3 : News g L1 h0 ((c.lx, instObj 59 c.dl) :: (c.dl, dictOf [{ hash := PyData.keyHash w.params (Str.ofString "lineno"), key := Value.str (Str.ofString "lineno") c.k1, val := Value.int no tno }, { hash := PyData.keyHash w.params (Str.ofString "instream"), key := Value.str (Str.ofString "instream") c.k2, val := Value.ref c.st }, { hash := PyData.keyHash w.params (Str.ofString "whitespace"), key := Value.str (Str.ofString "whitespace") c.k3, val := Value.str (Str.ofString "\n\t\x0d ") c.k4 }, { hash := PyData.keyHash w.params (Str.ofString "pushback"), key := Value.str (Str.ofString "pushback") c.k5, val := Value.ref c.pb }] 4) :: (lexR w c ps pn vs sn ++ led)) := by rw [hle] at N0; exact N0
  repeat' ((fail_if_success (with_reducible show wpAny _ _ (call (Value.ref 49) _) _ _ _)); (fail_if_success (with_reducible show ∃ _, _)); (fail_if_success (with_reducible show LeaveK h₀ _ _ _ _ _ _)); first | (k_unfold; (try dsimp only)) | (k_end; wrow_close) | (first | ((with_reducible show wpAny _ _ (call (Value.builtin "len") _) _ _ _); with_reducible ((k_here; k_dflt (refine' len_L ?N ?hm ?hz ?_; (case N => k_asm); (case hm => k_mem); (case hz => omega)); intro _))) | ((with_reducible show wpAny _ _ (call (Value.builtin "dict.get") _) _ _ _); with_reducible ((k_here; k_dflt (refine' ett_get ?F ?X ?_; (case F => k_asm); (case X => k_asm)); intro _))) | (with_reducible ((k_here; (with_reducible show wpAny _ _ (getMethod (Value.ref 64) _ _) _ _ _); k_dflt (refine' ett_method ?F ?X ?_; (case F => k_asm); (case X => k_asm))))) | ((with_reducible show wpAny _ _ (eval (PySem.Expr.Name _ _) _) _ _ _); with_reducible ((k_here; k_dflt (refine' nameX_L ?F ?v ?_ ?a ?b; (case F => k_asm); (case a => rfl); (case b => rfl); (case v => with_reducible assumption); k_whole)))) | walk1) | (dsimp only; (first | ((with_reducible show wpAny _ _ (call (Value.builtin "len") _) _ _ _); with_reducible ((k_here; k_dflt (refine' len_L ?N ?hm ?hz ?_; (case N => k_asm); (case hm => k_mem); (case hz => omega)); intro _))) | ((with_reducible show wpAny _ _ (call (Value.builtin "dict.get") _) _ _ _); with_reducible ((k_here; k_dflt (refine' ett_get ?F ?X ?_; (case F => k_asm); (case X => k_asm)); intro _))) | (with_reducible ((k_here; (with_reducible show wpAny _ _ (getMethod (Value.ref 64) _ _) _ _ _); k_dflt (refine' ett_method ?F ?X ?_; (case F => k_asm); (case X => k_asm))))) | ((with_reducible show wpAny _ _ (eval (PySem.Expr.Name _ _) _) _ _ _); with_reducible ((k_here; k_dflt (refine' nameX_L ?F ?v ?_ ?a ?b; (case F => k_asm); (case a => rfl); (case b => rfl); (case v => with_reducible assumption); k_whole)))) | walk1)) | (leave1; walk_say "STEP leave1"; try dsimp only) | fail "no step")
  dsimp only
  refine get_pack ok C hl2 B1 F0 X1 T1 rfl N0 off hz hr hgo (fun t l' h' tk' a b F2 N2 => ?_) rfl (Nat.le_of_ble_eq_true rfl) rfl (Nat.le_of_ble_eq_true rfl)
  clear N3 F0 N0
  dsimp only
  repeat' ((fail_if_success (with_reducible show wpAny _ _ (call (Value.ref 49) _) _ _ _)); (fail_if_success (with_reducible show ∃ _, _)); (fail_if_success (with_reducible show LeaveK h₀ _ _ _ _ _ _)); first | (k_unfold; (try dsimp only)) | (k_end; wrow_close) | (first | ((with_reducible show wpAny _ _ (call (Value.builtin "len") _) _ _ _); with_reducible ((k_here; k_dflt (refine' len_L ?N ?hm ?hz ?_; (case N => k_asm); (case hm => k_mem); (case hz => omega)); intro _))) | ((with_reducible show wpAny _ _ (call (Value.builtin "dict.get") _) _ _ _); with_reducible ((k_here; k_dflt (refine' ett_get ?F ?X ?_; (case F => k_asm); (case X => k_asm)); intro _))) | (with_reducible ((k_here; (with_reducible show wpAny _ _ (getMethod (Value.ref 64) _ _) _ _ _); k_dflt (refine' ett_method ?F ?X ?_; (case F => k_asm); (case X => k_asm))))) | ((with_reducible show wpAny _ _ (eval (PySem.Expr.Name _ _) _) _ _ _); with_reducible ((k_here; k_dflt (refine' nameX_L ?F ?v ?_ ?a ?b; (case F => k_asm); (case a => rfl); (case b => rfl); (case v => with_reducible assumption); k_whole)))) | walk1) | (dsimp only; (first | ((with_reducible show wpAny _ _ (call (Value.builtin "len") _) _ _ _); with_reducible ((k_here; k_dflt (refine' len_L ?N ?hm ?hz ?_; (case N => k_asm); (case hm => k_mem); (case hz => omega)); intro _))) | ((with_reducible show wpAny _ _ (call (Value.builtin "dict.get") _) _ _ _); with_reducible ((k_here; k_dflt (refine' ett_get ?F ?X ?_; (case F => k_asm); (case X => k_asm)); intro _))) | (with_reducible ((k_here; (with_reducible show wpAny _ _ (getMethod (Value.ref 64) _ _) _ _ _); k_dflt (refine' ett_method ?F ?X ?_; (case F => k_asm); (case X => k_asm))))) | ((with_reducible show wpAny _ _ (eval (PySem.Expr.Name _ _) _) _ _ _); with_reducible ((k_here; k_dflt (refine' nameX_L ?F ?v ?_ ?a ?b; (case F => k_asm); (case a => rfl); (case b => rfl); (case v => with_reducible assumption); k_whole)))) | walk1)) | (leave1; walk_say "STEP leave1"; try dsimp only) | fail "no step")
  exact hret t l' _ _ a b (by assumption) (by assumption)
set_option maxHeartbeats 8000000 in
theorem get_next {w : World} {A₀ : Around} {base g : Heap} {outer0 : List Env} {L0 L1 a0 : Addr} {mg mb : Str → Option Value} {s : Shared} {Q : Flow → Shared → Prop} {E : Value → Shared → Prop} {p : Program} {loose : List Str} {mean : ExcName → Option Value} {cn0 nm : Str} {cs0 : Scope} {ccd0 : Value} {cl0 : List (Str × Addr)} {gd : Option (List Code)} {sc : Scope} {m : Str → Option Value} {led : List (Addr × Obj)} {c : LxP} {l : List (Addr × Obj)} {no : Int} {pws pws' : List (List Nat)} {r r' tok : List Nat} {S : Stmt}
    (hP : lnW1 = some (sc, S)) (B1 : Below A₀ base (envX cn0 cs0 L0 a0 ccd0 cl0 :: outer0) g) (F0 : Fr g L1 s.heap m) (X1 : (Mine.KL w.params).In g) (T1 : Top p loose mean mg mb g) (N0 : News g L1 s.heap (l ++ led)) (hlx : m (Str.ofString "lexer") = some (.ref c.lx)) (ok : LxOk c) (C : CodeHd base 86 82) (hl : LxAt w c no pws r l) (off : Off c led) (hz : pws.length ≤ 1000000) (hr : r.length ≤ 10000) (hgo : nextTok (pws, r) = some (tok, pws', r'))
    (hret : ∀ t l' h' tk', LxAt w c (no + nls r - nls r') pws' r' l' → l'.map Prod.fst = l.map Prod.fst → Fr g L1 h' (fun y => if y = Str.ofString "word" then some (.str ⟨tok.toArray⟩ t) else m y) → News g L1 h' (l' ++ led) → Q .next { s with heap := h', toks := tk' }) :
    wpAny (model PySem.Challenge.rw_st0010_01.row.prog w) ((ktrTop 500 500 gd cn0 cs0 L0 a0 ccd0 cl0 outer0).deeper (envOf nm sc L1 113 (.ref 112))) (exec S (envOf nm sc L1 113 (.ref 112))) Q E s := by
  obtain ⟨h0, g0, r9, k0, os0⟩ := s
  dsimp only at F0 N0 hret ⊢
  conv at hP => lhs; whnf
  injection hP with hP
  injection hP with hP1 hP2
  subst hP1 hP2
  revert X1; k_fill; intro X1
  have hl2 := hl
  obtain ⟨tno, ps, pn, vs, sn, hle, hp, hv⟩ := hl
  have N3 : News g L1 h0 ((c.lx, instObj 59 c.dl) :: (c.dl, dictOf [{ hash := PyData.keyHash w.params (Str.ofString "lineno"), key := Value.str (Str.ofString "lineno") c.k1, val := Value.int no tno }, { hash := PyData.keyHash w.params (Str.ofString "instream"), key := Value.str (Str.ofString "instream") c.k2, val := Value.ref c.st }, { hash := PyData.keyHash w.params (Str.ofString "whitespace"), key := Value.str (Str.ofString "whitespace") c.k3, val := Value.str (Str.ofString "\n\t\x0d ") c.k4 }, { hash := PyData.keyHash w.params (Str.ofString "pushback"), key := Value.str (Str.ofString "pushback") c.k5, val := Value.ref c.pb }] 4) :: (lexR w c ps pn vs sn ++ led)) := by rw [hle] at N0; exact N0
  repeat' ((fail_if_success (with_reducible show wpAny _ _ (call (Value.ref 49) _) _ _ _)); (fail_if_success (with_reducible show ∃ _, _)); (fail_if_success (with_reducible show LeaveK h₀ _ _ _ _ _ _)); first | (k_unfold; (try dsimp only)) | (k_end; wrow_close) | (first | ((with_reducible show wpAny _ _ (call (Value.builtin "len") _) _ _ _); with_reducible ((k_here; k_dflt (refine' len_L ?N ?hm ?hz ?_; (case N => k_asm); (case hm => k_mem); (case hz => omega)); intro _))) | ((with_reducible show wpAny _ _ (call (Value.builtin "dict.get") _) _ _ _); with_reducible ((k_here; k_dflt (refine' ett_get ?F ?X ?_; (case F => k_asm); (case X => k_asm)); intro _))) | (with_reducible ((k_here; (with_reducible show wpAny _ _ (getMethod (Value.ref 64) _ _) _ _ _); k_dflt (refine' ett_method ?F ?X ?_; (case F => k_asm); (case X => k_asm))))) | ((with_reducible show wpAny _ _ (eval (PySem.Expr.Name _ _) _) _ _ _); with_reducible ((k_here; k_dflt (refine' nameX_L ?F ?v ?_ ?a ?b; (case F => k_asm); (case a => rfl); (case b => rfl); (case v => with_reducible assumption); k_whole)))) | walk1) | (dsimp only; (first | ((with_reducible show wpAny _ _ (call (Value.builtin "len") _) _ _ _); with_reducible ((k_here; k_dflt (refine' len_L ?N ?hm ?hz ?_; (case N => k_asm); (case hm => k_mem); (case hz => omega)); intro _))) | ((with_reducible show wpAny _ _ (call (Value.builtin "dict.get") _) _ _ _); with_reducible ((k_here; k_dflt (refine' ett_get ?F ?X ?_; (case F => k_asm); (case X => k_asm)); intro _))) | (with_reducible ((k_here; (with_reducible show wpAny _ _ (getMethod (Value.ref 64) _ _) _ _ _); k_dflt (refine' ett_method ?F ?X ?_; (case F => k_asm); (case X => k_asm))))) | ((with_reducible show wpAny _ _ (eval (PySem.Expr.Name _ _) _) _ _ _); with_reducible ((k_here; k_dflt (refine' nameX_L ?F ?v ?_ ?a ?b; (case F => k_asm); (case a => rfl); (case b => rfl); (case v => with_reducible assumption); k_whole)))) | walk1)) | (leave1; walk_say "STEP leave1"; try dsimp only) | fail "no step")
  dsimp only
  refine get_pack ok C hl2 B1 F0 X1 T1 rfl N0 off hz hr hgo (fun t l' h' tk' a b F2 N2 => ?_) rfl (Nat.le_of_ble_eq_true rfl) rfl (Nat.le_of_ble_eq_true rfl)
  clear N3 F0 N0
  dsimp only
  repeat' ((fail_if_success (with_reducible show wpAny _ _ (call (Value.ref 49) _) _ _ _)); (fail_if_success (with_reducible show ∃ _, _)); (fail_if_success (with_reducible show LeaveK h₀ _ _ _ _ _ _)); first | (k_unfold; (try dsimp only)) | (k_end; wrow_close) | (first | ((with_reducible show wpAny _ _ (call (Value.builtin "len") _) _ _ _); with_reducible ((k_here; k_dflt (refine' len_L ?N ?hm ?hz ?_; (case N => k_asm); (case hm => k_mem); (case hz => omega)); intro _))) | ((with_reducible show wpAny _ _ (call (Value.builtin "dict.get") _) _ _ _); with_reducible ((k_here; k_dflt (refine' ett_get ?F ?X ?_; (case F => k_asm); (case X => k_asm)); intro _))) | (with_reducible ((k_here; (with_reducible show wpAny _ _ (getMethod (Value.ref 64) _ _) _ _ _); k_dflt (refine' ett_method ?F ?X ?_; (case F => k_asm); (case X => k_asm))))) | ((with_reducible show wpAny _ _ (eval (PySem.Expr.Name _ _) _) _ _ _); with_reducible ((k_here; k_dflt (refine' nameX_L ?F ?v ?_ ?a ?b; (case F => k_asm); (case a => rfl); (case b => rfl); (case v => with_reducible assumption); k_whole)))) | walk1) | (dsimp only; (first | ((with_reducible show wpAny _ _ (call (Value.builtin "len") _) _ _ _); with_reducible ((k_here; k_dflt (refine' len_L ?N ?hm ?hz ?_; (case N => k_asm); (case hm => k_mem); (case hz => omega)); intro _))) | ((with_reducible show wpAny _ _ (call (Value.builtin "dict.get") _) _ _ _); with_reducible ((k_here; k_dflt (refine' ett_get ?F ?X ?_; (case F => k_asm); (case X => k_asm)); intro _))) | (with_reducible ((k_here; (with_reducible show wpAny _ _ (getMethod (Value.ref 64) _ _) _ _ _); k_dflt (refine' ett_method ?F ?X ?_; (case F => k_asm); (case X => k_asm))))) | ((with_reducible show wpAny _ _ (eval (PySem.Expr.Name _ _) _) _ _ _); with_reducible ((k_here; k_dflt (refine' nameX_L ?F ?v ?_ ?a ?b; (case F => k_asm); (case a => rfl); (case b => rfl); (case v => with_reducible assumption); k_whole)))) | walk1)) | (leave1; walk_say "STEP leave1"; try dsimp only) | fail "no step")
  exact hret t l' _ _ a b (by assumption) (by assumption)
set_option maxHeartbeats 8000000 in
theorem line_app {w : World} {A₀ : Around} {base g : Heap} {outer0 : List Env} {L0 L1 a0 : Addr} {mg mb : Str → Option Value} {s : Shared} {Q : Flow → Shared → Prop} {E : Value → Shared → Prop} {p : Program} {loose : List Str} {mean : ExcName → Option Value} {cn0 nm : Str} {cs0 : Scope} {ccd0 : Value} {cl0 : List (Str × Addr)} {gd : Option (List Code)} {sc : Scope} {m : Str → Option Value} {led : List (Addr × Obj)} {S : Stmt} {ln : Addr} {us : List Value} {n : Nat} {v : Value}
    (hP : lnW0 = some (sc, S)) (B1 : Below A₀ base (envX cn0 cs0 L0 a0 ccd0 cl0 :: outer0) g) (F0 : Fr g L1 s.heap m) (X1 : (Mine.KL w.params).In g) (T1 : Top p loose mean mg mb g) (N0 : News g L1 s.heap ((ln, listOf us.toArray n) :: led)) (hln : m (Str.ofString "line") = some (.ref ln)) (hwd : m (Str.ofString "word") = some v) (off : ∀ q ∈ led, q.1 ≠ ln) (hz : us.length ≤ 100)
    (hret : ∀ h' tk', Fr g L1 h' m → News g L1 h' ((ln, listOf (us ++ [v]).toArray (n + 1)) :: led) → Q .next { s with heap := h', toks := tk' }) :
    wpAny (model PySem.Challenge.rw_st0010_01.row.prog w) ((ktrTop 500 500 gd cn0 cs0 L0 a0 ccd0 cl0 outer0).deeper (envOf nm sc L1 113 (.ref 112))) (exec S (envOf nm sc L1 113 (.ref 112))) Q E s := by
  obtain ⟨h0, g0, r9, k0, os0⟩ := s
  dsimp only at F0 N0 hret ⊢
  conv at hP => lhs; whnf
  injection hP with hP
  injection hP with hP1 hP2
  subst hP1 hP2
  revert X1; k_fill; intro X1
  repeat' ((fail_if_success (with_reducible show wpAny _ _ (call (Value.builtin _) [Value.ref _, _]) _ _ _)); first | (k_unfold; (try dsimp only)) | (k_end; wrow_close) | (first | ((with_reducible show wpAny _ _ (call (Value.builtin "len") _) _ _ _); with_reducible ((k_here; k_dflt (refine' len_L ?N ?hm ?hz ?_; (case N => k_asm); (case hm => k_mem); (case hz => omega)); intro _))) | ((with_reducible show wpAny _ _ (call (Value.builtin "dict.get") _) _ _ _); with_reducible ((k_here; k_dflt (refine' ett_get ?F ?X ?_; (case F => k_asm); (case X => k_asm)); intro _))) | (with_reducible ((k_here; (with_reducible show wpAny _ _ (getMethod (Value.ref 64) _ _) _ _ _); k_dflt (refine' ett_method ?F ?X ?_; (case F => k_asm); (case X => k_asm))))) | ((with_reducible show wpAny _ _ (eval (PySem.Expr.Name _ _) _) _ _ _); with_reducible ((k_here; k_dflt (refine' nameX_L ?F ?v ?_ ?a ?b; (case F => k_asm); (case a => rfl); (case b => rfl); (case v => with_reducible assumption); k_whole)))) | walk1) | (dsimp only; (first | ((with_reducible show wpAny _ _ (call (Value.builtin "len") _) _ _ _); with_reducible ((k_here; k_dflt (refine' len_L ?N ?hm ?hz ?_; (case N => k_asm); (case hm => k_mem); (case hz => omega)); intro _))) | ((with_reducible show wpAny _ _ (call (Value.builtin "dict.get") _) _ _ _); with_reducible ((k_here; k_dflt (refine' ett_get ?F ?X ?_; (case F => k_asm); (case X => k_asm)); intro _))) | (with_reducible ((k_here; (with_reducible show wpAny _ _ (getMethod (Value.ref 64) _ _) _ _ _); k_dflt (refine' ett_method ?F ?X ?_; (case F => k_asm); (case X => k_asm))))) | ((with_reducible show wpAny _ _ (eval (PySem.Expr.Name _ _) _) _ _ _); with_reducible ((k_here; k_dflt (refine' nameX_L ?F ?v ?_ ?a ?b; (case F => k_asm); (case a => rfl); (case b => rfl); (case v => with_reducible assumption); k_whole)))) | walk1)) | (leave1; walk_say "STEP leave1"; try dsimp only) | fail "no step")
  refine append_K F0 N0 (.head off) (fun h' F2 N2 => ?_) (by rw [sizeLine_eq]; simp; omega)
  clear F0 N0
  dsimp only
  repeat' ((fail_if_success (with_reducible show wpAny _ _ (call (Value.ref 49) _) _ _ _)); (fail_if_success (with_reducible show ∃ _, _)); (fail_if_success (with_reducible show LeaveK h₀ _ _ _ _ _ _)); first | (k_unfold; (try dsimp only)) | (k_end; wrow_close) | (first | ((with_reducible show wpAny _ _ (call (Value.builtin "len") _) _ _ _); with_reducible ((k_here; k_dflt (refine' len_L ?N ?hm ?hz ?_; (case N => k_asm); (case hm => k_mem); (case hz => omega)); intro _))) | ((with_reducible show wpAny _ _ (call (Value.builtin "dict.get") _) _ _ _); with_reducible ((k_here; k_dflt (refine' ett_get ?F ?X ?_; (case F => k_asm); (case X => k_asm)); intro _))) | (with_reducible ((k_here; (with_reducible show wpAny _ _ (getMethod (Value.ref 64) _ _) _ _ _); k_dflt (refine' ett_method ?F ?X ?_; (case F => k_asm); (case X => k_asm))))) | ((with_reducible show wpAny _ _ (eval (PySem.Expr.Name _ _) _) _ _ _); with_reducible ((k_here; k_dflt (refine' nameX_L ?F ?v ?_ ?a ?b; (case F => k_asm); (case a => rfl); (case b => rfl); (case v => with_reducible assumption); k_whole)))) | walk1) | (dsimp only; (first | ((with_reducible show wpAny _ _ (call (Value.builtin "len") _) _ _ _); with_reducible ((k_here; k_dflt (refine' len_L ?N ?hm ?hz ?_; (case N => k_asm); (case hm => k_mem); (case hz => omega)); intro _))) | ((with_reducible show wpAny _ _ (call (Value.builtin "dict.get") _) _ _ _); with_reducible ((k_here; k_dflt (refine' ett_get ?F ?X ?_; (case F => k_asm); (case X => k_asm)); intro _))) | (with_reducible ((k_here; (with_reducible show wpAny _ _ (getMethod (Value.ref 64) _ _) _ _ _); k_dflt (refine' ett_method ?F ?X ?_; (case F => k_asm); (case X => k_asm))))) | ((with_reducible show wpAny _ _ (eval (PySem.Expr.Name _ _) _) _ _ _); with_reducible ((k_here; k_dflt (refine' nameX_L ?F ?v ?_ ?a ?b; (case F => k_asm); (case a => rfl); (case b => rfl); (case v => with_reducible assumption); k_whole)))) | walk1)) | (leave1; walk_say "STEP leave1"; try dsimp only) | fail "no step")
  exact hret _ _ F2 (by simpa using N2)
set_option maxHeartbeats 8000000 in
theorem line_test {w : World} {A₀ : Around} {base g : Heap} {outer0 : List Env} {L0 L1 a0 : Addr} {mg mb : Str → Option Value} {s : Shared} {Q : Bool → Shared → Prop} {E : Value → Shared → Prop} {p : Program} {loose : List Str} {mean : ExcName → Option Value} {cn0 nm : Str} {cs0 : Scope} {ccd0 : Value} {cl0 : List (Str × Addr)} {gd : Option (List Code)} {sc : Scope} {m : Str → Option Value} {led : List (Addr × Obj)} {S : Expr} {ln : Addr} {us : List Value} {n : Nat} {wd : List Nat} {tw : Tok}
    (hP : lnTest = some (sc, S)) (B1 : Below A₀ base (envX cn0 cs0 L0 a0 ccd0 cl0 :: outer0) g) (F0 : Fr g L1 s.heap m) (X1 : (Mine.KL w.params).In g) (T1 : Top p loose mean mg mb g) (N0 : News g L1 s.heap ((ln, listOf us.toArray n) :: led)) (hln : m (Str.ofString "line") = some (.ref ln)) (hwd : m (Str.ofString "word") = some (.str ⟨wd.toArray⟩ tw)) (hz : us.length ≤ 4)
    (hret : ∀ h' tk', Fr g L1 h' m → News g L1 h' ((ln, listOf us.toArray n) :: led) → Q (!decide (num wd = 0)) { s with heap := h', toks := tk' }) :
    wpAny (model PySem.Challenge.rw_st0010_01.row.prog w) ((ktrTop 500 500 gd cn0 cs0 L0 a0 ccd0 cl0 outer0).deeper (envOf nm sc L1 113 (.ref 112))) (isTrue S (envOf nm sc L1 113 (.ref 112)) (eval S (envOf nm sc L1 113 (.ref 112)))) Q E s := by
  obtain ⟨h0, g0, r9, k0, os0⟩ := s
  dsimp only at F0 N0 hret ⊢
  conv at hP => lhs; whnf
  injection hP with hP
  injection hP with hP1 hP2
  subst hP1 hP2
  revert X1; k_fill; intro X1
  repeat' ((fail_if_success (with_reducible show wpAny _ _ (call (Value.ref 49) _) _ _ _)); (fail_if_success (with_reducible show ∃ _, _)); (fail_if_success (with_reducible show LeaveK h₀ _ _ _ _ _ _)); first | (k_unfold; (try dsimp only)) | (k_end; wrow_close) | (first | ((with_reducible show wpAny _ _ (call (Value.builtin "len") _) _ _ _); with_reducible ((k_here; k_dflt (refine' len_L ?N ?hm ?hz ?_; (case N => k_asm); (case hm => k_mem); (case hz => omega)); intro _))) | ((with_reducible show wpAny _ _ (call (Value.builtin "dict.get") _) _ _ _); with_reducible ((k_here; k_dflt (refine' ett_get ?F ?X ?_; (case F => k_asm); (case X => k_asm)); intro _))) | (with_reducible ((k_here; (with_reducible show wpAny _ _ (getMethod (Value.ref 64) _ _) _ _ _); k_dflt (refine' ett_method ?F ?X ?_; (case F => k_asm); (case X => k_asm))))) | ((with_reducible show wpAny _ _ (eval (PySem.Expr.Name _ _) _) _ _ _); with_reducible ((k_here; k_dflt (refine' nameX_L ?F ?v ?_ ?a ?b; (case F => k_asm); (case a => rfl); (case b => rfl); (case v => with_reducible assumption); k_whole)))) | walk1) | (dsimp only; (first | ((with_reducible show wpAny _ _ (call (Value.builtin "len") _) _ _ _); with_reducible ((k_here; k_dflt (refine' len_L ?N ?hm ?hz ?_; (case N => k_asm); (case hm => k_mem); (case hz => omega)); intro _))) | ((with_reducible show wpAny _ _ (call (Value.builtin "dict.get") _) _ _ _); with_reducible ((k_here; k_dflt (refine' ett_get ?F ?X ?_; (case F => k_asm); (case X => k_asm)); intro _))) | (with_reducible ((k_here; (with_reducible show wpAny _ _ (getMethod (Value.ref 64) _ _) _ _ _); k_dflt (refine' ett_method ?F ?X ?_; (case F => k_asm); (case X => k_asm))))) | ((with_reducible show wpAny _ _ (eval (PySem.Expr.Name _ _) _) _ _ _); with_reducible ((k_here; k_dflt (refine' nameX_L ?F ?v ?_ ?a ?b; (case F => k_asm); (case a => rfl); (case b => rfl); (case v => with_reducible assumption); k_whole)))) | walk1)) | (leave1; walk_say "STEP leave1"; try dsimp only) | fail "no step")
  · have e : (!decide (num wd = 0)) = false := by simp [*]
    rw [e] at hret
    rename Fr g L1 _ _ => F9
    rename News g L1 _ _ => N9
    exact hret _ _ F9 N9
  · have e : (!decide (num wd = 0)) = true := by simp [*]
    rw [e] at hret
    rename Fr g L1 _ _ => F9
    rename News g L1 _ _ => N9
    exact hret _ _ F9 N9
end
-- X3
inductive WInv (w : World) (c : LxP) (g : Heap) (L1 : Addr) (s : Shared) (m : Str → Option Value) (led l : List (Addr × Obj)) (ln : Addr) (us : List Value) (no : Int) (r r' : List Nat) (pws' ops : List (List Nat)) : Nat → Shared → Prop
  | mk {w1 : List Nat} {tw1 : Tok} {pws1 : List (List Nat)} {r1 : List Nat} {ops1 : List (List Nat)} {us1 : List Value} {l1 : List (Addr × Obj)} {n1 : Nat} {m1 : Str → Option Value} {h1 : Heap} {tk1 : Nat} {dn : List (List Nat)} :
    Fr g L1 h1 m1 → News g L1 h1 ((ln, listOf (us ++ us1).toArray n1) :: (l1 ++ led)) → LxAt w c (no + nls r - nls r1) pws1 r1 l1 → l1.map Prod.fst = l.map Prod.fst → (∀ y, y ≠ Str.ofString "word" → m1 y = m y) → m1 (Str.ofString "word") = some (.str ⟨w1.toArray⟩ tw1) → Tail w1 (pws1, r1) ops1 (pws', r') → Words us1 dn → ops = dn ++ ops1 → pws1.length ≤ 1000000 → r1.length ≤ 10000 → WInv w c g L1 s m led l ln us no r r' pws' ops ops1.length { s with heap := h1, toks := tk1 }
noncomputable def ne_word (m m' : Str → Option Value) : Prop := ∀ y, y ≠ Str.ofString "word" → m' y = m y
set_option maxHeartbeats 8000000 in
theorem while_X {w : World} {A₀ : Around} {base g : Heap} {outer0 : List Env} {L0 L1 a0 : Addr} {mg mb : Str → Option Value} {s : Shared} {Q : Flow → Shared → Prop} {E : Value → Shared → Prop} {p : Program} {loose : List Str} {mean : ExcName → Option Value} {cn0 nm : Str} {cs0 : Scope} {ccd0 : Value} {cl0 : List (Str × Addr)} {gd : Option (List Code)} {sc : Scope} {m : Str → Option Value} {led : List (Addr × Obj)} {c : LxP} {l : List (Addr × Obj)} {no : Int} {pws pws' ops : List (List Nat)} {r r' wd : List Nat} {tw : Tok} {S : Stmt} {ln : Addr} {us : List Value} {n : Nat}
    (hP : lnWh = some (sc, S)) (B1 : Below A₀ base (envX cn0 cs0 L0 a0 ccd0 cl0 :: outer0) g) (F0 : Fr g L1 s.heap m) (X1 : (Mine.KL w.params).In g) (T1 : Top p loose mean mg mb g) (N0 : News g L1 s.heap ((ln, listOf us.toArray n) :: (l ++ led))) (hlx : m (Str.ofString "lexer") = some (.ref c.lx)) (hln : m (Str.ofString "line") = some (.ref ln)) (hwd : m (Str.ofString "word") = some (.str ⟨wd.toArray⟩ tw)) (ok : LxOk c) (C : CodeHd base 86 82) (hl : LxAt w c no pws r l) (off : Off c ((ln, listOf us.toArray n) :: led)) (offl : ∀ q ∈ l ++ led, q.1 ≠ ln) (hz : pws.length ≤ 1000000) (hr : r.length ≤ 10000) (hT : Tail wd (pws, r) ops (pws', r')) (hus : us.length + ops.length ≤ 4)
    (hret : ∀ m' n' us2 l' h' tk', Words us2 ops → LxAt w c (no + nls r - nls r') pws' r' l' → l'.map Prod.fst = l.map Prod.fst → ne_word m m' → Fr g L1 h' m' → News g L1 h' ((ln, listOf (us ++ us2).toArray n') :: (l' ++ led)) → Q .next { s with heap := h', toks := tk' }) :
    wpAny (model PySem.Challenge.rw_st0010_01.row.prog w) ((ktrTop 500 500 gd cn0 cs0 L0 a0 ccd0 cl0 outer0).deeper (envOf nm sc L1 113 (.ref 112))) (exec S (envOf nm sc L1 113 (.ref 112))) Q E s := by
  have hPw := hP
  conv at hP => lhs; whnf
  injection hP with hP
  injection hP with hP1 hP2
  subst hP1 hP2
  refine wpAny_While ?_
  refine codeAny_whileLoop (I := WInv w c g L1 s m led l ln us no r r' pws' ops) ?turn ops.length ?init
  case init => exact .mk (us1 := []) (dn := []) F0 (by rw [List.append_nil]; exact N0) (by rw [Int.add_sub_cancel]; exact hl) rfl (fun _ _ => rfl) hwd hT .nil rfl hz hr
  rintro _ _ (@⟨w1, tw1, pws1, r1, ops1, us1, l1, n1, m1, h1, tk1, dn, F1, N1, hl1, ha1, hm1, hw1, hT1, hdn, hops, hz1, hr1⟩)
  have hul : (us ++ us1).length + ops1.length ≤ 4 := by
    have h9 := hdn.length
    rw [hops] at hus
    simp only [List.length_append] at hus ⊢
    omega
  have hlx1 : m1 (Str.ofString "lexer") = some (.ref c.lx) := (hm1 _ (by decide)).trans hlx
  have hln1 : m1 (Str.ofString "line") = some (.ref ln) := (hm1 _ (by decide)).trans hln
  refine line_test rfl B1 F1 X1 T1 N1 hln1 hw1 (by omega) fun h2 tk2 F2 N2 => ?_
  clear F1 N1 F0 N0
  rcases hT1 with ⟨hw, rfl, hσ⟩ | ⟨hw, q, rfl, hq⟩
  · have e : (!decide (num w1 = 0)) = false := by simp [hw]
    rw [e, if_neg Bool.false_ne_true]
    refine wpAny_execs_nil ?_
    injection hσ with e1 e2
    subst e1 e2
    rw [List.append_nil] at hops
    subst hops
    exact hret m1 n1 us1 l1 _ _ hdn hl1 ha1 hm1 F2 N2
  · have e : (!decide (num w1 = 0)) = true := by simp [hw]
    rw [e, if_pos rfl]
    simp only [List.length_cons] at hul
    have offl1 : ∀ q ∈ l1 ++ led, q.1 ≠ ln := fun q hq => by
      rcases List.mem_append.mp hq with hq | hq
      · obtain ⟨p, hp, e⟩ := same_addr ha1 hq
        exact e ▸ offl p (List.mem_append_left _ hp)
      · exact offl q (List.mem_append_right _ hq)
    refine wpAny_execs_cons (line_app rfl B1 F2 X1 T1 N2 hln1 hw1 offl1 (by omega) fun h3 tk3 F3 N3 => ?_)
    clear F2 N2
    obtain ⟨w2, σ2, hnx, hT2⟩ := hq.tail
    obtain ⟨pws2, r2⟩ := σ2
    have h8 := nextTok_len hnx
    have N4 : News g L1 h3 (l1 ++ ((ln, listOf (us ++ us1 ++ [Value.str ⟨w1.toArray⟩ tw1]).toArray (n1 + 1)) :: led)) := News.sub N3 fun q hq => by
      rcases List.mem_append.mp hq with hq | hq
      · exact .tail _ (List.mem_append_left _ hq)
      rcases List.mem_cons.mp hq with rfl | hq
      · exact .head _
      · exact .tail _ (List.mem_append_right _ hq)
    refine wpAny_execs_cons (get_next rfl B1 F3 X1 T1 N4 hlx1 ok C hl1 (Off.cons (fun q hq => off q (.tail _ hq)) (off (ln, listOf us.toArray n) (.head _))) hz1 hr1 hnx fun t l' h' tk' a b F5 N5 => ?_)
    clear F3 N3 N4
    refine wpAny_execs_nil ?_
    have e8 : no + nls r - nls r1 + nls r1 - nls r2 = no + nls r - nls r2 := by omega
    rw [e8] at a
    refine ⟨q.length, Nat.lt_succ_self _, .mk (us1 := us1 ++ [Value.str ⟨w1.toArray⟩ tw1]) (dn := dn ++ [w1]) (n1 := n1 + 1) F5 ?_ a (b.trans ha1) (fun y hy => (if_neg hy).trans (hm1 y hy)) (if_pos rfl) hT2 (hdn.append (.cons rfl .nil)) (by rw [hops]; simp) (by omega) (by omega)⟩
    rw [← List.append_assoc]
    refine News.sub N5 fun q hq => ?_
    rcases List.mem_cons.mp hq with rfl | hq
    · exact List.mem_append_right _ (.head _)
    rcases List.mem_append.mp hq with hq | hq
    · exact List.mem_append_left _ hq
    · exact List.mem_append_right _ (.tail _ hq)
-- X4
structure Ln where
  a : Addr
  us : List Value
  n : Nat
  ops : List (List Nat)
noncomputable def lnRef (x : Ln) : Value := .ref x.a
noncomputable def lnObj (x : Ln) : Addr × Obj := (x.a, listOf x.us.toArray x.n)
inductive ReadsL : List (List Nat) × List Nat → List (List (List Nat)) → List (List Nat) × List Nat → Prop
  | nil {σ : List (List Nat) × List Nat} : ReadsL σ [] σ
  | cons {σ σ1 σ' : List (List Nat) × List Nat} {o : List (List Nat)} {os : List (List (List Nat))} : Reads σ o σ1 → o.length ≤ 4 → ReadsL σ1 os σ' → ReadsL σ (o :: os) σ'
noncomputable def lnB0 : Option (Scope × Stmt) := match linesFn with
  | some (sc, q :: _) => some (sc, q)
  | _ => none
noncomputable def lnB3 : Option (Scope × Stmt) := match linesFn with
  | some (sc, _ :: _ :: _ :: q :: _) => some (sc, q)
  | _ => none
theorem LxAt.pb {w : World} {c : LxP} {no : Int} {pws : List (List Nat)} {r : List Nat} {l : List (Addr × Obj)} (h : LxAt w c no pws r l) : ∃ o, (c.pb, o) ∈ l := by
  obtain ⟨tno, ps, pn, vs, sn, rfl, _, _⟩ := h
  exact ⟨_, .tail _ (.tail _ (.head _))⟩
set_option maxHeartbeats 8000000 in
theorem new_line {w : World} {A₀ : Around} {base g : Heap} {outer0 : List Env} {L0 L1 a0 : Addr} {mg mb : Str → Option Value} {s : Shared} {Q : Flow → Shared → Prop} {E : Value → Shared → Prop} {p : Program} {loose : List Str} {mean : ExcName → Option Value} {cn0 nm : Str} {cs0 : Scope} {ccd0 : Value} {cl0 : List (Str × Addr)} {gd : Option (List Code)} {sc : Scope} {m : Str → Option Value} {led : List (Addr × Obj)} {S : Stmt}
    (hP : lnB0 = some (sc, S)) (B1 : Below A₀ base (envX cn0 cs0 L0 a0 ccd0 cl0 :: outer0) g) (F0 : Fr g L1 s.heap m) (X1 : (Mine.KL w.params).In g) (T1 : Top p loose mean mg mb g) (N0 : News g L1 s.heap led)
    (hret : ∀ ln h' tk', (∀ q ∈ led, @LT.lt Nat _ q.1 ln) → Fr g L1 h' (fun y => if y = Str.ofString "line" then some (.ref ln) else m y) → News g L1 h' ((ln, listOf #[] 0) :: led) → Q .next { s with heap := h', toks := tk' }) :
    wpAny (model PySem.Challenge.rw_st0010_01.row.prog w) ((ktrTop 500 500 gd cn0 cs0 L0 a0 ccd0 cl0 outer0).deeper (envOf nm sc L1 113 (.ref 112))) (exec S (envOf nm sc L1 113 (.ref 112))) Q E s := by
  obtain ⟨h0, g0, r9, k0, os0⟩ := s
  dsimp only at F0 N0 hret ⊢
  conv at hP => lhs; whnf
  injection hP with hP
  injection hP with hP1 hP2
  subst hP1 hP2
  revert X1; k_fill; intro X1
  repeat' ((fail_if_success (with_reducible show wpAny _ _ (newList _) _ _ _)); (fail_if_success (with_reducible show wpAny _ _ (pyIter _) _ _ _)); (fail_if_success (with_reducible show wpAny _ _ (exec (Stmt.For _ _ _ _ _) _) _ _ _)); (fail_if_success (with_reducible show wpAny _ _ (call (Value.builtin _) [Value.ref _, Value.ref _]) _ _ _)); (fail_if_success (with_reducible show LeaveK h₀ _ _ _ _ _ _)); first | (k_unfold; (try dsimp only)) | (k_end; wrow_close) | (first | ((with_reducible show wpAny _ _ (eval (PySem.Expr.Name _ _) _) _ _ _); with_reducible ((k_here; k_dflt (refine' nameX_L ?F ?v ?_ ?a ?b; (case F => k_asm); (case a => rfl); (case b => rfl); (case v => with_reducible assumption); k_whole)))) | walk1) | (dsimp only; (first | ((with_reducible show wpAny _ _ (eval (PySem.Expr.Name _ _) _) _ _ _); with_reducible ((k_here; k_dflt (refine' nameX_L ?F ?v ?_ ?a ?b; (case F => k_asm); (case a => rfl); (case b => rfl); (case v => with_reducible assumption); k_whole)))) | walk1)) | (leave1; walk_say "STEP leave1"; try dsimp only) | fail "no step")
  refine newList_K2 F0 N0 (fun ln h' F2 N2 l1 _ => ?_) (by size_fits)
  clear F0 N0
  dsimp only
  repeat' ((fail_if_success (with_reducible show wpAny _ _ (newList _) _ _ _)); (fail_if_success (with_reducible show wpAny _ _ (pyIter _) _ _ _)); (fail_if_success (with_reducible show wpAny _ _ (exec (Stmt.For _ _ _ _ _) _) _ _ _)); (fail_if_success (with_reducible show wpAny _ _ (call (Value.builtin _) [Value.ref _, Value.ref _]) _ _ _)); (fail_if_success (with_reducible show LeaveK h₀ _ _ _ _ _ _)); first | (k_unfold; (try dsimp only)) | (k_end; wrow_close) | (first | ((with_reducible show wpAny _ _ (eval (PySem.Expr.Name _ _) _) _ _ _); with_reducible ((k_here; k_dflt (refine' nameX_L ?F ?v ?_ ?a ?b; (case F => k_asm); (case a => rfl); (case b => rfl); (case v => with_reducible assumption); k_whole)))) | walk1) | (dsimp only; (first | ((with_reducible show wpAny _ _ (eval (PySem.Expr.Name _ _) _) _ _ _); with_reducible ((k_here; k_dflt (refine' nameX_L ?F ?v ?_ ?a ?b; (case F => k_asm); (case a => rfl); (case b => rfl); (case v => with_reducible assumption); k_whole)))) | walk1)) | (leave1; walk_say "STEP leave1"; try dsimp only) | fail "no step")
  exact hret ln _ _ l1 (by assumption) (by assumption)
set_option maxHeartbeats 8000000 in
theorem app_lines {w : World} {A₀ : Around} {base g : Heap} {outer0 : List Env} {L0 L1 a0 : Addr} {mg mb : Str → Option Value} {s : Shared} {Q : Flow → Shared → Prop} {E : Value → Shared → Prop} {p : Program} {loose : List Str} {mean : ExcName → Option Value} {cn0 nm : Str} {cs0 : Scope} {ccd0 : Value} {cl0 : List (Str × Addr)} {gd : Option (List Code)} {sc : Scope} {m : Str → Option Value} {led : List (Addr × Obj)} {S : Stmt} {lls ln : Addr} {vs : List Value} {n : Nat}
    (hP : lnB3 = some (sc, S)) (B1 : Below A₀ base (envX cn0 cs0 L0 a0 ccd0 cl0 :: outer0) g) (F0 : Fr g L1 s.heap m) (X1 : (Mine.KL w.params).In g) (T1 : Top p loose mean mg mb g) (N0 : News g L1 s.heap ((lls, listOf vs.toArray n) :: led)) (hls : m (Str.ofString "lines") = some (.ref lls)) (hln : m (Str.ofString "line") = some (.ref ln)) (off : ∀ q ∈ led, q.1 ≠ lls) (hz : vs.length ≤ 100)
    (hret : ∀ h' tk', Fr g L1 h' m → News g L1 h' ((lls, listOf (vs ++ [Value.ref ln]).toArray (n + 1)) :: led) → Q .next { s with heap := h', toks := tk' }) :
    wpAny (model PySem.Challenge.rw_st0010_01.row.prog w) ((ktrTop 500 500 gd cn0 cs0 L0 a0 ccd0 cl0 outer0).deeper (envOf nm sc L1 113 (.ref 112))) (exec S (envOf nm sc L1 113 (.ref 112))) Q E s := by
  obtain ⟨h0, g0, r9, k0, os0⟩ := s
  dsimp only at F0 N0 hret ⊢
  conv at hP => lhs; whnf
  injection hP with hP
  injection hP with hP1 hP2
  subst hP1 hP2
  revert X1; k_fill; intro X1
  repeat' ((fail_if_success (with_reducible show wpAny _ _ (newList _) _ _ _)); (fail_if_success (with_reducible show wpAny _ _ (pyIter _) _ _ _)); (fail_if_success (with_reducible show wpAny _ _ (exec (Stmt.For _ _ _ _ _) _) _ _ _)); (fail_if_success (with_reducible show wpAny _ _ (call (Value.builtin _) [Value.ref _, Value.ref _]) _ _ _)); (fail_if_success (with_reducible show LeaveK h₀ _ _ _ _ _ _)); first | (k_unfold; (try dsimp only)) | (k_end; wrow_close) | (first | ((with_reducible show wpAny _ _ (eval (PySem.Expr.Name _ _) _) _ _ _); with_reducible ((k_here; k_dflt (refine' nameX_L ?F ?v ?_ ?a ?b; (case F => k_asm); (case a => rfl); (case b => rfl); (case v => with_reducible assumption); k_whole)))) | walk1) | (dsimp only; (first | ((with_reducible show wpAny _ _ (eval (PySem.Expr.Name _ _) _) _ _ _); with_reducible ((k_here; k_dflt (refine' nameX_L ?F ?v ?_ ?a ?b; (case F => k_asm); (case a => rfl); (case b => rfl); (case v => with_reducible assumption); k_whole)))) | walk1)) | (leave1; walk_say "STEP leave1"; try dsimp only) | fail "no step")
  refine append_K F0 N0 (.head off) (fun h' F2 N2 => ?_) (by rw [sizeLine_eq]; simp; omega)
  clear F0 N0
  dsimp only
  repeat' ((fail_if_success (with_reducible show wpAny _ _ (newList _) _ _ _)); (fail_if_success (with_reducible show wpAny _ _ (pyIter _) _ _ _)); (fail_if_success (with_reducible show wpAny _ _ (exec (Stmt.For _ _ _ _ _) _) _ _ _)); (fail_if_success (with_reducible show wpAny _ _ (call (Value.builtin _) [Value.ref _, Value.ref _]) _ _ _)); (fail_if_success (with_reducible show LeaveK h₀ _ _ _ _ _ _)); first | (k_unfold; (try dsimp only)) | (k_end; wrow_close) | (first | ((with_reducible show wpAny _ _ (eval (PySem.Expr.Name _ _) _) _ _ _); with_reducible ((k_here; k_dflt (refine' nameX_L ?F ?v ?_ ?a ?b; (case F => k_asm); (case a => rfl); (case b => rfl); (case v => with_reducible assumption); k_whole)))) | walk1) | (dsimp only; (first | ((with_reducible show wpAny _ _ (eval (PySem.Expr.Name _ _) _) _ _ _); with_reducible ((k_here; k_dflt (refine' nameX_L ?F ?v ?_ ?a ?b; (case F => k_asm); (case a => rfl); (case b => rfl); (case v => with_reducible assumption); k_whole)))) | walk1)) | (leave1; walk_say "STEP leave1"; try dsimp only) | fail "no step")
  exact hret _ _ F2 (by simpa using N2)
noncomputable def ne3 (m m' : Str → Option Value) : Prop := ∀ y, y ≠ Str.ofString "word" → y ≠ Str.ofString "line" → m' y = m y
set_option maxHeartbeats 8000000 in
theorem lines_turn {w : World} {A₀ : Around} {base g : Heap} {outer0 : List Env} {L0 L1 a0 : Addr} {mg mb : Str → Option Value} {s : Shared} {Q : Flow → Shared → Prop} {E : Value → Shared → Prop} {p : Program} {loose : List Str} {mean : ExcName → Option Value} {cn0 nm : Str} {cs0 : Scope} {ccd0 : Value} {cl0 : List (Str × Addr)} {gd : Option (List Code)} {sc : Scope} {m : Str → Option Value} {led : List (Addr × Obj)} {c : LxP} {l : List (Addr × Obj)} {no : Int} {pws pws' ops : List (List Nat)} {r r' : List Nat} {S : List Stmt} {lls : Addr} {vs : List Value} {n : Nat}
    (hP : linesFn = some (sc, S)) (B1 : Below A₀ base (envX cn0 cs0 L0 a0 ccd0 cl0 :: outer0) g) (F0 : Fr g L1 s.heap m) (X1 : (Mine.KL w.params).In g) (T1 : Top p loose mean mg mb g) (N0 : News g L1 s.heap ((lls, listOf vs.toArray n) :: (l ++ led))) (hlx : m (Str.ofString "lexer") = some (.ref c.lx)) (hls : m (Str.ofString "lines") = some (.ref lls)) (ok : LxOk c) (C : CodeHd base 86 82) (hl : LxAt w c no pws r l) (off : Off c ((lls, listOf vs.toArray n) :: led)) (offl : ∀ q ∈ l ++ led, q.1 ≠ lls) (hz : pws.length ≤ 1000000) (hr : r.length ≤ 10000) (hT : Reads (pws, r) ops (pws', r')) (hus : ops.length ≤ 4) (hv : vs.length ≤ 100)
    (hret : ∀ m' ln n' us2 l' h' tk', Words us2 ops → LxAt w c (no + nls r - nls r') pws' r' l' → l'.map Prod.fst = l.map Prod.fst → ne3 m m' → (∀ q ∈ (lls, listOf vs.toArray n) :: (l ++ led), @LT.lt Nat _ q.1 ln) → Fr g L1 h' m' → News g L1 h' ((lls, listOf (vs ++ [Value.ref ln]).toArray (n + 1)) :: (ln, listOf us2.toArray n') :: (l' ++ led)) → Q .next { s with heap := h', toks := tk' }) :
    wpAny (model PySem.Challenge.rw_st0010_01.row.prog w) ((ktrTop 500 500 gd cn0 cs0 L0 a0 ccd0 cl0 outer0).deeper (envOf nm sc L1 113 (.ref 112))) (execs S (envOf nm sc L1 113 (.ref 112))) Q E s := by
  conv at hP => lhs; whnf
  injection hP with hP
  injection hP with hP1 hP2
  subst hP1 hP2
  refine wpAny_execs_cons (new_line rfl B1 F0 X1 T1 N0 fun ln h1 tk1 lt F1 N1 => ?_)
  clear F0 N0
  obtain ⟨o9, hpb⟩ := hl.pb
  have lpb : @LT.lt Nat _ c.pb ln := lt (c.pb, o9) (.tail _ (List.mem_append_left _ hpb))
  have llls : @LT.lt Nat _ lls ln := lt _ (.head _)
  have oln : Off c ((ln, listOf #[] 0) :: (lls, listOf vs.toArray n) :: led) := Off.cons off (Off.above ok lpb)
  obtain ⟨w0, σ1, hnx, hT1⟩ := hT.tail
  obtain ⟨pws1, r1⟩ := σ1
  have h8 := nextTok_len hnx
  have N2 : News g L1 h1 (l ++ ((ln, listOf #[] 0) :: (lls, listOf vs.toArray n) :: led)) := News.sub N1 fun q hq => by
    rcases List.mem_append.mp hq with hq | hq
    · exact .tail _ (.tail _ (List.mem_append_left _ hq))
    rcases List.mem_cons.mp hq with rfl | hq
    · exact .head _
    rcases List.mem_cons.mp hq with rfl | hq
    · exact .tail _ (.head _)
    · exact .tail _ (.tail _ (List.mem_append_right _ hq))
  refine wpAny_execs_cons (get_first rfl B1 F1 X1 T1 N2 ((if_neg (by decide)).trans hlx) ok C hl oln hz hr hnx fun t l' h' tk' a b F5 N5 => ?_)
  clear F1 N1 N2
  have N6 : News g L1 h' ((ln, listOf (List.toArray []) 0) :: (l' ++ ((lls, listOf vs.toArray n) :: led))) := News.sub N5 fun q hq => by
    rcases List.mem_cons.mp hq with rfl | hq
    · exact List.mem_append_right _ (.head _)
    rcases List.mem_append.mp hq with hq | hq
    · exact List.mem_append_left _ hq
    · exact List.mem_append_right _ (.tail _ hq)
  have offn : ∀ q ∈ l' ++ ((lls, listOf vs.toArray n) :: led), q.1 ≠ ln := fun q hq => by
    rcases List.mem_append.mp hq with hq | hq
    · obtain ⟨p, hp, e⟩ := same_addr b hq
      exact e ▸ Nat.ne_of_lt (lt p (.tail _ (List.mem_append_left _ hp)))
    rcases List.mem_cons.mp hq with rfl | hq
    · exact Nat.ne_of_lt llls
    · exact Nat.ne_of_lt (lt q (.tail _ (List.mem_append_right _ hq)))
  refine wpAny_execs_cons (while_X (us := []) rfl B1 F5 X1 T1 N6 ((if_neg (by decide)).trans ((if_neg (by decide)).trans hlx)) ((if_neg (by decide)).trans (if_pos rfl)) (if_pos rfl) ok C a oln offn (by omega) (by omega) hT1 (by simpa using hus) fun m' n' us2 l2 h2 tk2 hw2 a2 b2 e2 F7 N7 => ?_)
  clear F5 N5 N6
  have e8 : no + nls r - nls r1 + nls r1 - nls r' = no + nls r - nls r' := by omega
  rw [e8] at a2
  have N8 : News g L1 h2 ((lls, listOf vs.toArray n) :: ((ln, listOf us2.toArray n') :: (l2 ++ led))) := News.sub N7 fun q hq => by
    rcases List.mem_cons.mp hq with rfl | hq
    · exact .tail _ (List.mem_append_right _ (.head _))
    rcases List.mem_cons.mp hq with rfl | hq
    · exact .head _
    rcases List.mem_append.mp hq with hq | hq
    · exact .tail _ (List.mem_append_left _ hq)
    · exact .tail _ (List.mem_append_right _ (.tail _ hq))
  refine wpAny_execs_cons (app_lines rfl B1 F7 X1 T1 N8 ((e2 _ (by decide)).trans ((if_neg (by decide)).trans ((if_neg (by decide)).trans hls))) ((e2 _ (by decide)).trans ((if_neg (by decide)).trans (if_pos rfl))) (fun q hq => ?_) hv fun h3 tk3 F9 N9 => ?_)
  · rcases List.mem_cons.mp hq with rfl | hq
    · exact Nat.ne_of_gt llls
    rcases List.mem_append.mp hq with hq | hq
    · obtain ⟨p, hp, e⟩ := same_addr (b2.trans b) hq
      exact e ▸ offl p (List.mem_append_left _ hp)
    · exact offl q (List.mem_append_right _ hq)
  refine wpAny_execs_nil ?_
  exact hret m' ln n' us2 l2 h3 tk3 hw2 a2 (b2.trans b) (fun y h1 h2 => (e2 y h1).trans ((if_neg h1).trans (if_neg h2))) lt F9 N9
-- X5
theorem Reads.both {σ σ' : List (List Nat) × List Nat} {l : List (List Nat)} (h : Reads σ l σ') : σ'.1.length ≤ σ.1.length ∧ σ'.2.length ≤ σ.2.length := by
  induction h with
  | stop h1 _ => exact nextTok_len h1
  | go h1 _ _ ih => exact ⟨Nat.le_trans ih.1 (nextTok_len h1).1, Nat.le_trans ih.2 (nextTok_len h1).2⟩
noncomputable abbrev hOf {h₀ h : Heap} {L : Addr} {nw : List (Addr × Obj)} (_ : News h₀ L h nw) : Heap := h
inductive LJ (w : World) (c : LxP) (l : List (Addr × Obj)) (lls I0 : Addr) (no : Int) (r r' : List Nat) (pws' : List (List Nat)) (opss : List (List (List Nat))) : Nat → (Str → Option Value) → List (Addr × Obj) → Prop
  | mk {FS : List Ln} {rem : List (List (List Nat))} {pws1 : List (List Nat)} {r1 : List Nat} {l1 : List (Addr × Obj)} {n : Nat} {m1 : Str → Option Value} :
    FS.map Ln.ops ++ rem = opss → ReadsL (pws1, r1) rem (pws', r') → (∀ x ∈ FS, Words x.us x.ops ∧ @LT.lt Nat _ lls x.a ∧ @LT.lt Nat _ I0 x.a) → LxAt w c (no + nls r - nls r1) pws1 r1 l1 → l1.map Prod.fst = l.map Prod.fst → (m1 (Str.ofString "lexer") = some (.ref c.lx) ∧ m1 (Str.ofString "lines") = some (.ref lls)) → pws1.length ≤ 1000000 → r1.length ≤ 10000 → LJ w c l lls I0 no r r' pws' opss FS.length m1 ((lls, listOf (List.toArray (FS.map lnRef)) n) :: (l1 ++ FS.map lnObj))
set_option maxHeartbeats 8000000 in
theorem spec_linesX {w : World} {A₀ : Around} {base h₀ : Heap} {outer : List Env} {L a : Addr} {m mg mb : Str → Option Value} {s : Shared} {Q E : Value → Shared → Prop} {p : Program} {loose : List Str} {mean : ExcName → Option Value} {cn : Str} {cs : Scope} {ccd : Value} {cl : List (Str × Addr)} {gd : Option (List Code)} {c : LxP} {l : List (Addr × Obj)} {no : Int} {pws pws' : List (List Nat)} {r r' : List Nat} {opss : List (List (List Nat))} (ok : LxOk c) (C : CodeHd base 86 82) (hl : LxAt w c no pws r l)
    (B : Below A₀ base outer h₀) (F : Fr h₀ L s.heap m) (X : (Mine.KL w.params).In h₀) (T : Top p loose mean mg mb h₀) (hk : cs.kind = .function) (N : News h₀ L s.heap l) (hz : pws.length ≤ 1000000) (hr : r.length ≤ 10000) (hR : ReadsL (pws, r) opss (pws', r')) (h5 : opss.length = 5)
    (hret : ∀ (FS : List Ln) lls n l' h' tk', FS.map Ln.ops = opss → (∀ x ∈ FS, Words x.us x.ops ∧ @LT.lt Nat _ lls x.a) → LxAt w c (no + nls r - nls r') pws' r' l' → l'.map Prod.fst = l.map Prod.fst → s.heap.objs.size ≤ lls → Fr h₀ L h' m → News h₀ L h' ((lls, listOf (List.toArray (FS.map lnRef)) n) :: (l' ++ FS.map lnObj)) → Keeps s.heap h' l → Q (.ref lls) { s with heap := h', toks := tk' }) :
    wpAny (model PySem.Challenge.rw_st0010_01.row.prog w) (ktrTop 500 500 gd cn cs L a ccd cl outer) (call (.ref 113) [.ref c.lx]) Q E s := by
  revert X; k_fill; intro X
  refine wpAny_call ?_
  refine' enter_K2 ?k1 ?k2 ?k3 ?k4 ?k5 ?kA ?kF ?kK ?k6 ?k7 ?k8 ?k9 ?kB ?_ ?c2 ?c3 ?c4 ?c5
  (case kA => exact rfl)
  (case kF => exact rfl)
  (case kK => assumption)
  (case k1 => k_asm)
  (case k2 => k_asm)
  (case k3 => k_asm)
  (case k4 => exact N)
  (case k5 => k_asm)
  (case k6 => k_is)
  (case k7 => k_is)
  (case k8 => exact Nat.le_of_ble_eq_true rfl)
  (case k9 => exact BindsTo.of_eq rfl)
  (case c5 => decide)
  (case kB => exact locs rfl)
  (case c2 => exact rfl)
  (case c3 => exact rfl)
  (case c4 => exact rfl)
  intro g1 L1 h1 FG F1 N1 B1 X1 T1 kp l1 hsz
  (try dsimp only)
  (try k_lift B1)
  repeat' ((fail_if_success (with_reducible show wpAny _ _ (newList _) _ _ _)); (fail_if_success (with_reducible show wpAny _ _ (pyIter _) _ _ _)); (fail_if_success (with_reducible show wpAny _ _ (exec (Stmt.For _ _ _ _ _) _) _ _ _)); (fail_if_success (with_reducible show wpAny _ _ (call (Value.builtin _) [Value.ref _, Value.ref _]) _ _ _)); (fail_if_success (with_reducible show LeaveK h₀ _ _ _ _ _ _)); first | (k_unfold; (try dsimp only)) | (k_end; wrow_close) | (first | ((with_reducible show wpAny _ _ (eval (PySem.Expr.Name _ _) _) _ _ _); with_reducible ((k_here; k_dflt (refine' nameX_L ?Fq9 ?vq9 ?_ ?aq9 ?bq9; (case Fq9 => k_asm); (case aq9 => rfl); (case bq9 => rfl); (case vq9 => with_reducible assumption); k_whole)))) | walk1) | (dsimp only; (first | ((with_reducible show wpAny _ _ (eval (PySem.Expr.Name _ _) _) _ _ _); with_reducible ((k_here; k_dflt (refine' nameX_L ?Fq9 ?vq9 ?_ ?aq9 ?bq9; (case Fq9 => k_asm); (case aq9 => rfl); (case bq9 => rfl); (case vq9 => with_reducible assumption); k_whole)))) | walk1)) | (leave1; walk_say "STEP leave1"; try dsimp only) | fail "no step")
  refine newList_K2 (by assumption) (by assumption) (fun lls hA FA NA lA lA2 => ?_) (by size_fits)
  clear N1 F1
  dsimp only
  repeat' ((fail_if_success (with_reducible show wpAny _ _ (newList _) _ _ _)); (fail_if_success (with_reducible show wpAny _ _ (pyIter _) _ _ _)); (fail_if_success (with_reducible show wpAny _ _ (exec (Stmt.For _ _ _ _ _) _) _ _ _)); (fail_if_success (with_reducible show wpAny _ _ (call (Value.builtin _) [Value.ref _, Value.ref _]) _ _ _)); (fail_if_success (with_reducible show LeaveK h₀ _ _ _ _ _ _)); first | (k_unfold; (try dsimp only)) | (k_end; wrow_close) | (first | ((with_reducible show wpAny _ _ (eval (PySem.Expr.Name _ _) _) _ _ _); with_reducible ((k_here; k_dflt (refine' nameX_L ?Fq9 ?vq9 ?_ ?aq9 ?bq9; (case Fq9 => k_asm); (case aq9 => rfl); (case bq9 => rfl); (case vq9 => with_reducible assumption); k_whole)))) | walk1) | (dsimp only; (first | ((with_reducible show wpAny _ _ (eval (PySem.Expr.Name _ _) _) _ _ _); with_reducible ((k_here; k_dflt (refine' nameX_L ?Fq9 ?vq9 ?_ ?aq9 ?bq9; (case Fq9 => k_asm); (case aq9 => rfl); (case bq9 => rfl); (case vq9 => with_reducible assumption); k_whole)))) | walk1)) | (leave1; walk_say "STEP leave1"; try dsimp only) | fail "no step")
  rename Fr g1 _ _ _ => F9
  rename News g1 _ _ _ => N9
  refine For_invVF F9 (by rfl) (by rfl) ?_
  repeat' ((fail_if_success (with_reducible show wpAny _ _ (newList _) _ _ _)); (fail_if_success (with_reducible show wpAny _ _ (pyIter _) _ _ _)); (fail_if_success (with_reducible show wpAny _ _ (exec (Stmt.For _ _ _ _ _) _) _ _ _)); (fail_if_success (with_reducible show wpAny _ _ (call (Value.builtin _) [Value.ref _, Value.ref _]) _ _ _)); (fail_if_success (with_reducible show LeaveK h₀ _ _ _ _ _ _)); first | (k_unfold; (try dsimp only)) | (k_end; wrow_close) | (first | ((with_reducible show wpAny _ _ (eval (PySem.Expr.Name _ _) _) _ _ _); with_reducible ((k_here; k_dflt (refine' nameX_L ?Fq9 ?vq9 ?_ ?aq9 ?bq9; (case Fq9 => k_asm); (case aq9 => rfl); (case bq9 => rfl); (case vq9 => with_reducible assumption); k_whole)))) | walk1) | (dsimp only; (first | ((with_reducible show wpAny _ _ (eval (PySem.Expr.Name _ _) _) _ _ _); with_reducible ((k_here; k_dflt (refine' nameX_L ?Fq9 ?vq9 ?_ ?aq9 ?bq9; (case Fq9 => k_asm); (case aq9 => rfl); (case bq9 => rfl); (case vq9 => with_reducible assumption); k_whole)))) | walk1)) | (leave1; walk_say "STEP leave1"; try dsimp only) | fail "no step")
  rename Fr g1 _ _ _ => F2
  rename News g1 _ _ _ => N2
  rename IsRange _ _ _ _ _ _ _ _ => hrg
  have ltl : ∀ q ∈ l, @LT.lt Nat _ q.1 lls := lA
  obtain ⟨o9, hpb⟩ := hl.pb
  have lpb : @LT.lt Nat _ c.pb lls := ltl (c.pb, o9) hpb
  have N2' := N2
  rw [← List.append_nil l] at N2'
  refine for_range (n := 5) rfl F2 N2' hrg (by rfl) (by rfl) (LJ w c l lls (hOf N2').objs.size no r r' pws' opss) (.mk (FS := []) (l1 := l) (rem := opss) rfl hR (fun x hx => nomatch hx) (by rw [Int.add_sub_cancel]; exact hl) rfl ⟨rfl, rfl⟩ hz hr) ?_ ?_
  · rintro i t m₁ news₁ h t2 own Q' hi ⟨hops, hRL, hFS, hl1, ha1, hm1, hz1, hr1⟩ hown ⟨oI, hI⟩ F3 N3 hk
    rename_i FS rem pws1 r1 l1' n
    cases hRL with
    | nil =>
      rw [List.append_nil] at hops
      have := congrArg List.length hops
      rw [List.length_map] at this
      omega
    | @cons _ σ1 _ o os hR1 ho4 hRL2 =>
      obtain ⟨pws2, r2⟩ := σ1
      have hlr := hR1.both
      have bigI : @LT.lt Nat _ lls _ := Heap.lt_size (N2 _ (.head _)).1
      have N4 : News g1 L1 h ((lls, listOf (List.toArray (FS.map lnRef)) n) :: (l1' ++ (FS.map lnObj ++ own))) := News.sub N3 fun q hq => by
        rcases List.mem_cons.mp hq with rfl | hq
        · exact List.mem_append_right _ (.head _)
        rcases List.mem_append.mp hq with hq | hq
        · exact List.mem_append_right _ (.tail _ (List.mem_append_left _ hq))
        rcases List.mem_append.mp hq with hq | hq
        · exact List.mem_append_right _ (.tail _ (List.mem_append_right _ hq))
        · exact List.mem_append_left _ hq
      have gtl : ∀ q ∈ FS.map lnObj ++ own, @LT.lt Nat _ lls q.1 := fun q hq => by
        rcases List.mem_append.mp hq with hq | hq
        · obtain ⟨x, hx, rfl⟩ := List.mem_map.mp hq
          exact (hFS x hx).2.1
        · rw [hown q hq]; exact bigI
      refine lines_turn rfl B1 F3 X1 T1 N4 ((if_neg (by decide)).trans hm1.1) ((if_neg (by decide)).trans hm1.2) ok C hl1 (Off.cons (fun q hq => Off.above ok (Nat.lt_trans lpb (gtl q hq))) (Off.above ok lpb)) (fun q hq => ?_) hz1 hr1 hR1 ho4 (by rw [List.length_map]; omega) fun m' ln n' us2 l' h' tk' hw2 a2 b2 e2 lt F5 N5 => ?_
      · rcases List.mem_append.mp hq with hq | hq
        · obtain ⟨p, hp, e⟩ := same_addr ha1 hq
          exact e ▸ Nat.ne_of_lt (ltl p hp)
        · exact Nat.ne_of_gt (gtl q hq)
      have ltI : @LT.lt Nat _ _ ln := lt _ (.tail _ (List.mem_append_right _ (List.mem_append_right _ hI)))
      have e8 : no + nls r - nls r1 + nls r1 - nls r2 = no + nls r - nls r2 := by omega
      rw [e8] at a2
      have ef : FS.map lnRef ++ [Value.ref ln] = (FS ++ [(⟨ln, us2, n', o⟩ : Ln)]).map lnRef := by rw [List.map_append]; rfl
      rw [ef] at N5
      have el : FS.length + 1 = (FS ++ [(⟨ln, us2, n', o⟩ : Ln)]).length := by rw [List.length_append]; rfl
      refine hk h' tk' m' ((lls, listOf (List.toArray ((FS ++ [(⟨ln, us2, n', o⟩ : Ln)]).map lnRef)) (n + 1)) :: (l' ++ (FS ++ [(⟨ln, us2, n', o⟩ : Ln)]).map lnObj)) F5 (News.sub N5 fun q hq => ?_) (fun q hq => ?_) ?_
      · rcases List.mem_append.mp hq with hq | hq
        · exact .tail _ (.tail _ (List.mem_append_right _ (List.mem_append_right _ hq)))
        rcases List.mem_cons.mp hq with rfl | hq
        · exact .head _
        rcases List.mem_append.mp hq with hq | hq
        · exact .tail _ (.tail _ (List.mem_append_left _ hq))
        rw [List.map_append] at hq
        rcases List.mem_append.mp hq with hq | hq
        · exact .tail _ (.tail _ (List.mem_append_right _ (List.mem_append_left _ hq)))
        · rw [List.mem_singleton.mp hq]; exact .tail _ (.head _)
      · rcases List.mem_cons.mp hq with rfl | hq
        · exact Nat.ne_of_lt bigI
        rcases List.mem_append.mp hq with hq | hq
        · obtain ⟨p, hp, e⟩ := same_addr (b2.trans ha1) hq
          exact e ▸ Nat.ne_of_lt (Nat.lt_trans (ltl p hp) bigI)
        rw [List.map_append] at hq
        rcases List.mem_append.mp hq with hq | hq
        · obtain ⟨x, hx, rfl⟩ := List.mem_map.mp hq
          exact Nat.ne_of_gt (hFS x hx).2.2
        · rw [List.mem_singleton.mp hq]; exact Nat.ne_of_gt ltI
      · rw [el]
        refine .mk (rem := os) (pws1 := pws2) (r1 := r2) (by rw [← hops, List.map_append, List.append_assoc]; rfl) hRL2 (fun x hx => ?_) a2 (b2.trans ha1) ⟨(e2 _ (by decide) (by decide)).trans ((if_neg (by decide)).trans hm1.1), (e2 _ (by decide) (by decide)).trans ((if_neg (by decide)).trans hm1.2)⟩ (Nat.le_trans hlr.1 hz1) (Nat.le_trans hlr.2 hr1)
        rcases List.mem_append.mp hx with hx | hx
        · exact hFS x hx
        · rw [List.mem_singleton.mp hx]; exact ⟨hw2, lt _ (.head _), ltI⟩
  · intro h' t2 m1 nw F5 N5 hJ
    generalize hk5 : 5 = k5 at hJ
    cases hJ with
    | @mk FS rem pws1 r1 l1 n m1 hops hRL hFS hl1 ha1 hm1 hz1 hr1 =>
      cases hRL with
      | cons =>
        have := congrArg List.length hops
        simp only [List.length_append, List.length_map, List.length_cons] at this
        omega
      | nil =>
        rw [List.append_nil] at hops
        have hls9 := hm1.2
        dsimp only
        repeat' ((fail_if_success (with_reducible show wpAny _ _ (newList _) _ _ _)); (fail_if_success (with_reducible show wpAny _ _ (pyIter _) _ _ _)); (fail_if_success (with_reducible show wpAny _ _ (exec (Stmt.For _ _ _ _ _) _) _ _ _)); (fail_if_success (with_reducible show wpAny _ _ (call (Value.builtin _) [Value.ref _, Value.ref _]) _ _ _)); (fail_if_success (with_reducible show LeaveK h₀ _ _ _ _ _ _)); first | (k_unfold; (try dsimp only)) | (k_end; wrow_close) | (first | ((with_reducible show wpAny _ _ (eval (PySem.Expr.Name _ _) _) _ _ _); with_reducible ((k_here; k_dflt (refine' nameX_L ?Fq9 ?vq9 ?_ ?aq9 ?bq9; (case Fq9 => k_asm); (case aq9 => rfl); (case bq9 => rfl); (case vq9 => with_reducible assumption); k_whole)))) | walk1) | (dsimp only; (first | ((with_reducible show wpAny _ _ (eval (PySem.Expr.Name _ _) _) _ _ _); with_reducible ((k_here; k_dflt (refine' nameX_L ?Fq9 ?vq9 ?_ ?aq9 ?bq9; (case Fq9 => k_asm); (case aq9 => rfl); (case bq9 => rfl); (case vq9 => with_reducible assumption); k_whole)))) | walk1)) | (leave1; walk_say "STEP leave1"; try dsimp only) | fail "no step")
        refine' leave_K ?fa ?na kp ?kk
        (case fa => exact F5)
        (case na => exact N5)
        intro kF kN kK
        dsimp only
        exact hret FS lls n l1 _ _ hops (fun x hx => ⟨(hFS x hx).1, (hFS x hx).2.1⟩) hl1 ha1 (Nat.le_trans hsz (Nat.le_of_lt lA2)) kF kN kK
-- P2
noncomputable def pk (b : Int) (i : Nat) : Nat := (balL b [0, 1, 2, 3]).getD i 0
theorem balL_pk {α : Type} (b : Int) (x : Nat → α) : balL b [x 0, x 1, x 2, x 3] = [x (pk b 0), x (pk b 1), x (pk b 2), x (pk b 3)] := by
  unfold pk balL
  cases bit b 0 <;> cases bit b (0 + 1) <;> cases bit b (0 + 1 + 1) <;> cases bit b (0 + 1 + 1 + 1) <;> rfl
noncomputable def lnF (c : Int) : Nat → Int
  | 0 => ln0 c
  | 1 => ln1 c
  | 2 => ln2 c
  | _ => ln3 c
noncomputable def uF (u0 u1 u2 u3 : Tok) : Nat → Tok
  | 0 => u0
  | 1 => u1
  | 2 => u2
  | _ => u3
theorem bal_vals (b c : Int) (u0 u1 u2 u3 : Tok) : balL b [Value.int (ln0 c) u0, .int (ln1 c) u1, .int (ln2 c) u2, .int (ln3 c) u3] =
    [.int (lnF c (pk b 0)) (uF u0 u1 u2 u3 (pk b 0)), .int (lnF c (pk b 1)) (uF u0 u1 u2 u3 (pk b 1)), .int (lnF c (pk b 2)) (uF u0 u1 u2 u3 (pk b 2)), .int (lnF c (pk b 3)) (uF u0 u1 u2 u3 (pk b 3))] :=
  balL_pk b fun i => Value.int (lnF c i) (uF u0 u1 u2 u3 i)
theorem gap_ok (x : Int) : 0 ≤ x.fmod 12 ∧ x.fmod 12 ≤ 11 := by
  have h1 := Int.fmod_nonneg_of_pos x (show (0 : Int) < 12 by decide)
  have h2 := Int.fmod_lt_of_pos x (show (0 : Int) < 12 by decide)
  omega
theorem ln_order (c : Int) : 7 ≤ ln0 c ∧ ln0 c < ln1 c ∧ ln1 c < ln2 c ∧ ln2 c < ln3 c ∧ ln3 c ≤ 54 := by
  unfold ln3 ln2 ln1 ln0
  have h0 := gap_ok c
  have h1 := gap_ok (c.fdiv 12)
  have h2 := gap_ok ((c.fdiv 12).fdiv 12)
  have h3 := gap_ok (((c.fdiv 12).fdiv 12).fdiv 12)
  omega
theorem lnF_range (c : Int) (i : Nat) : 7 ≤ lnF c i ∧ lnF c i ≤ 54 := by
  have h := ln_order c
  unfold lnF
  split <;> omega
-- L0
noncomputable def lawOf : Option (Scope × List Stmt) := match (PySem.Challenge.pw_st0010_01.main.body.drop 64 : List Stmt) with
  | Stmt.FunctionDef _ _ q _ _ _ sc _ _ _ :: _ => some (sc, q)
  | _ => none
noncomputable def ballotElt : Option (Scope × Expr × Scope) := match lawOf with
  | some (sc, _ :: _ :: _ :: Stmt.Assign _ (Expr.ListComp e _ csc _) _ :: _) => some (sc, e, csc)
  | _ => none
noncomputable def bitsOf (wv : Int) (i : Nat) : Int := (wv.fdiv (8 ^ ((0 : Int) + (i : Int)).toNat)).fmod 8
-- A0
set_option maxHeartbeats 8000000 in
theorem ballot_elt2 {w : World} {A₀ : Around} {base g : Heap} {L1 fa : Addr} {cd : Value} {mg mb : Str → Option Value} {s : Shared} {Q E : Value → Shared → Prop} {p : Program} {loose : List Str} {mean : ExcName → Option Value} {nm : Str} {sc csc : Scope} {e : Expr} {ow on oC : Obj} {m m2 : Str → Option Value} {C nl : Addr} {wv c : Int} {tw t9 u0 u1 u2 u3 : Tok} {nn i : Nat}
    (hP : ballotElt = some (sc, e, csc)) (B1 : Below A₀ base [] g) (F0 : Fr g L1 s.heap m) (X1 : (Mine.KL w.params).In g)
    (N0 : News g L1 s.heap [(C, oC), (nl, listOf #[.int (ln0 c) u0, .int (ln1 c) u1, .int (ln2 c) u2, .int (ln3 c) u3] nn), (L1 + 1 + 1, on), (L1 + 1, ow)]) (T1 : Top p loose mean mg mb g) (hi : i < 5) (dw : ow.data = .cell (some (.int wv tw))) (dn : on.data = .cell (some (.ref nl))) (hC : LCg.NsObj oC m2) (hx : m2 (Str.ofString "k") = some (.int (0 + (i : Int)) t9))
    (hret : ∀ b cb h' tk', Fr g L1 h' m → News g L1 h' [(b, listOf (balL (bitsOf wv i) [.int (ln0 c) u0, .int (ln1 c) u1, .int (ln2 c) u2, .int (ln3 c) u3]).toArray cb), (nl, listOf #[.int (ln0 c) u0, .int (ln1 c) u1, .int (ln2 c) u2, .int (ln3 c) u3] nn)] → Keeps s.heap h' [(nl, listOf #[.int (ln0 c) u0, .int (ln1 c) u1, .int (ln2 c) u2, .int (ln3 c) u3] nn)] → s.heap.objs.size ≤ b → Q (.ref b) { s with heap := h', toks := tk' }) :
    wpAny (model PySem.Challenge.rw_st0010_01.row.prog w) (callerA.deeper (envOfC nm sc L1 fa cd)) (eval e (compEnvC csc [(Str.ofString "wishes", L1 + 1), (Str.ofString "numbers", L1 + 1 + 1)] C (envOfC nm sc L1 fa cd))) Q E s := by
  obtain ⟨h0, g0, r0, k0, o0⟩ := s
  dsimp only at F0 N0 hret ⊢
  conv at hP => lhs; whnf
  injection hP with hP
  injection hP with hP1 hP2
  injection hP2 with hP2 hP3
  subst hP1 hP2 hP3
  revert X1; k_fill; intro X1
  match i, hi with
  | 0, _ =>
    repeat' ((fail_if_success (with_reducible show ∃ _, _)); (fail_if_success (with_reducible show LeaveK h₀ _ _ _ _ _ _)); (fail_if_success (with_reducible show wpAny _ _ (call (Value.ref 94) _) _ _ _)); (fail_if_success (with_reducible show wpAny _ _ (call (Value.ref 101) _) _ _ _)); (fail_if_success (with_reducible show wpAny _ _ (call (Value.ref 106) _) _ _ _)); (fail_if_success (with_reducible show wpAny _ _ (call (Value.ref 87) _) _ _ _)); (fail_if_success (with_reducible show wpAny _ _ (call (Value.ref 113) _) _ _ _)); (fail_if_success (with_reducible show wpAny _ _ (call (Value.ref 118) _) _ _ _)); (fail_if_success (with_reducible show wpAny _ _ (call (Value.ref 56) _) _ _ _)); first | (k_unfold; (try dsimp only)) | (k_end; wrow_close) | walk1 | (dsimp only; walk1) | (leave1; walk_say "STEP leave1"; try dsimp only) | fail "no step")
    refine' wpAny_le (A' := ktrTop 500 500 callerA.guards nm ?cs0 L1 fa cd ?cl0 []) ?hh0 ?a10 ?a20 ?a30 ?a40 ?a50
    (case a30 => exact rfl)
    (case a10 => exact rfl)
    (case a20 => exact Nat.le_of_ble_eq_true rfl)
    (case a40 => exact rfl)
    (case a50 => exact Nat.le_of_ble_eq_true rfl)
    refine spec_ballot (nl := nl) B1 F0 X1 (News.sub N0 (mem_one (.tail _ (.head _)))) T1 rfl _ _ fun b cb h' tk' FA NA KA hs => ?_
    exact hret b cb h' tk' FA NA KA hs
  | 1, _ =>
    repeat' ((fail_if_success (with_reducible show ∃ _, _)); (fail_if_success (with_reducible show LeaveK h₀ _ _ _ _ _ _)); (fail_if_success (with_reducible show wpAny _ _ (call (Value.ref 94) _) _ _ _)); (fail_if_success (with_reducible show wpAny _ _ (call (Value.ref 101) _) _ _ _)); (fail_if_success (with_reducible show wpAny _ _ (call (Value.ref 106) _) _ _ _)); (fail_if_success (with_reducible show wpAny _ _ (call (Value.ref 87) _) _ _ _)); (fail_if_success (with_reducible show wpAny _ _ (call (Value.ref 113) _) _ _ _)); (fail_if_success (with_reducible show wpAny _ _ (call (Value.ref 118) _) _ _ _)); (fail_if_success (with_reducible show wpAny _ _ (call (Value.ref 56) _) _ _ _)); first | (k_unfold; (try dsimp only)) | (k_end; wrow_close) | walk1 | (dsimp only; walk1) | (leave1; walk_say "STEP leave1"; try dsimp only) | fail "no step")
    refine' wpAny_le (A' := ktrTop 500 500 callerA.guards nm ?cs1 L1 fa cd ?cl1 []) ?hh1 ?a11 ?a21 ?a31 ?a41 ?a51
    (case a31 => exact rfl)
    (case a11 => exact rfl)
    (case a21 => exact Nat.le_of_ble_eq_true rfl)
    (case a41 => exact rfl)
    (case a51 => exact Nat.le_of_ble_eq_true rfl)
    refine spec_ballot (nl := nl) B1 F0 X1 (News.sub N0 (mem_one (.tail _ (.head _)))) T1 rfl _ _ fun b cb h' tk' FA NA KA hs => ?_
    exact hret b cb h' tk' FA NA KA hs
  | 2, _ =>
    repeat' ((fail_if_success (with_reducible show ∃ _, _)); (fail_if_success (with_reducible show LeaveK h₀ _ _ _ _ _ _)); (fail_if_success (with_reducible show wpAny _ _ (call (Value.ref 94) _) _ _ _)); (fail_if_success (with_reducible show wpAny _ _ (call (Value.ref 101) _) _ _ _)); (fail_if_success (with_reducible show wpAny _ _ (call (Value.ref 106) _) _ _ _)); (fail_if_success (with_reducible show wpAny _ _ (call (Value.ref 87) _) _ _ _)); (fail_if_success (with_reducible show wpAny _ _ (call (Value.ref 113) _) _ _ _)); (fail_if_success (with_reducible show wpAny _ _ (call (Value.ref 118) _) _ _ _)); (fail_if_success (with_reducible show wpAny _ _ (call (Value.ref 56) _) _ _ _)); first | (k_unfold; (try dsimp only)) | (k_end; wrow_close) | walk1 | (dsimp only; walk1) | (leave1; walk_say "STEP leave1"; try dsimp only) | fail "no step")
    refine' wpAny_le (A' := ktrTop 500 500 callerA.guards nm ?cs2 L1 fa cd ?cl2 []) ?hh2 ?a12 ?a22 ?a32 ?a42 ?a52
    (case a32 => exact rfl)
    (case a12 => exact rfl)
    (case a22 => exact Nat.le_of_ble_eq_true rfl)
    (case a42 => exact rfl)
    (case a52 => exact Nat.le_of_ble_eq_true rfl)
    refine spec_ballot (nl := nl) B1 F0 X1 (News.sub N0 (mem_one (.tail _ (.head _)))) T1 rfl _ _ fun b cb h' tk' FA NA KA hs => ?_
    exact hret b cb h' tk' FA NA KA hs
  | 3, _ =>
    repeat' ((fail_if_success (with_reducible show ∃ _, _)); (fail_if_success (with_reducible show LeaveK h₀ _ _ _ _ _ _)); (fail_if_success (with_reducible show wpAny _ _ (call (Value.ref 94) _) _ _ _)); (fail_if_success (with_reducible show wpAny _ _ (call (Value.ref 101) _) _ _ _)); (fail_if_success (with_reducible show wpAny _ _ (call (Value.ref 106) _) _ _ _)); (fail_if_success (with_reducible show wpAny _ _ (call (Value.ref 87) _) _ _ _)); (fail_if_success (with_reducible show wpAny _ _ (call (Value.ref 113) _) _ _ _)); (fail_if_success (with_reducible show wpAny _ _ (call (Value.ref 118) _) _ _ _)); (fail_if_success (with_reducible show wpAny _ _ (call (Value.ref 56) _) _ _ _)); first | (k_unfold; (try dsimp only)) | (k_end; wrow_close) | walk1 | (dsimp only; walk1) | (leave1; walk_say "STEP leave1"; try dsimp only) | fail "no step")
    refine' wpAny_le (A' := ktrTop 500 500 callerA.guards nm ?cs3 L1 fa cd ?cl3 []) ?hh3 ?a13 ?a23 ?a33 ?a43 ?a53
    (case a33 => exact rfl)
    (case a13 => exact rfl)
    (case a23 => exact Nat.le_of_ble_eq_true rfl)
    (case a43 => exact rfl)
    (case a53 => exact Nat.le_of_ble_eq_true rfl)
    refine spec_ballot (nl := nl) B1 F0 X1 (News.sub N0 (mem_one (.tail _ (.head _)))) T1 rfl _ _ fun b cb h' tk' FA NA KA hs => ?_
    exact hret b cb h' tk' FA NA KA hs
  | 4, _ =>
    repeat' ((fail_if_success (with_reducible show ∃ _, _)); (fail_if_success (with_reducible show LeaveK h₀ _ _ _ _ _ _)); (fail_if_success (with_reducible show wpAny _ _ (call (Value.ref 94) _) _ _ _)); (fail_if_success (with_reducible show wpAny _ _ (call (Value.ref 101) _) _ _ _)); (fail_if_success (with_reducible show wpAny _ _ (call (Value.ref 106) _) _ _ _)); (fail_if_success (with_reducible show wpAny _ _ (call (Value.ref 87) _) _ _ _)); (fail_if_success (with_reducible show wpAny _ _ (call (Value.ref 113) _) _ _ _)); (fail_if_success (with_reducible show wpAny _ _ (call (Value.ref 118) _) _ _ _)); (fail_if_success (with_reducible show wpAny _ _ (call (Value.ref 56) _) _ _ _)); first | (k_unfold; (try dsimp only)) | (k_end; wrow_close) | walk1 | (dsimp only; walk1) | (leave1; walk_say "STEP leave1"; try dsimp only) | fail "no step")
    refine' wpAny_le (A' := ktrTop 500 500 callerA.guards nm ?cs4 L1 fa cd ?cl4 []) ?hh4 ?a14 ?a24 ?a34 ?a44 ?a54
    (case a34 => exact rfl)
    (case a14 => exact rfl)
    (case a24 => exact Nat.le_of_ble_eq_true rfl)
    (case a44 => exact rfl)
    (case a54 => exact Nat.le_of_ble_eq_true rfl)
    refine spec_ballot (nl := nl) B1 F0 X1 (News.sub N0 (mem_one (.tail _ (.head _)))) T1 rfl _ _ fun b cb h' tk' FA NA KA hs => ?_
    exact hret b cb h' tk' FA NA KA hs
-- S14
set_option maxHeartbeats 8000000 in
theorem spec_push {w : World} {A₀ : Around} {base h₀ : Heap} {outer : List Env} {L a : Addr} {m mg mb : Str → Option Value} {s : Shared} {Q E : Value → Shared → Prop} {p : Program} {loose : List Str} {mean : ExcName → Option Value} {cn : Str} {cs : Scope} {ccd : Value} {cl : List (Str × Addr)} {gd : Option (List Code)} {lx dl pb st : Addr} {k1 k2 k3 k4 k5 : Tok} {no : Int} {tno : Tok} {pn : Nat} {ps : List Value} {wd : List Nat} {tw : Tok}
    (B : Below A₀ base outer h₀) (F : Fr h₀ L s.heap m) (X : (Mine.KL w.params).In h₀) (N : News h₀ L s.heap [(lx, instObj 59 dl), (dl, lexE w k1 k2 k3 k4 k5 no tno st pb), (pb, listOf ps.toArray pn)]) (T : Top p loose mean mg mb h₀) (hk : cs.kind = .function) (ho : @LT.lt Nat _ dl lx ∧ @LT.lt Nat _ lx pb) (hz : ps.length ≤ 1000000)
    (hret : ∀ pn' h' tk', Fr h₀ L h' m → News h₀ L h' [(lx, instObj 59 dl), (dl, lexE w k1 k2 k3 k4 k5 no tno st pb), (pb, listOf (ps ++ [Value.str ⟨wd.toArray⟩ tw]).toArray pn')] → Keeps s.heap h' [(lx, instObj 59 dl), (dl, lexE w k1 k2 k3 k4 k5 no tno st pb), (pb, listOf ps.toArray pn)] → Q .none { s with heap := h', toks := tk' }) :
    wpAny (model PySem.Challenge.rw_st0010_01.row.prog w) (ktrTop 500 500 gd cn cs L a ccd cl outer) (call (.ref 56) [.ref lx, .str ⟨wd.toArray⟩ tw]) Q E s := by
  revert X; k_fill; intro X
  refine wpAny_call ?_
  k_dflt (first | ((refine' enter_K ?k1 ?k2 ?k3 ?k4 ?k5 ?kA ?kF ?kK ?k6 ?k7 ?k8 ?k9 ?kB ?_ ?c2 ?c3 ?c4 ?c5; (case kA => exact rfl); (case kF => exact rfl); (case kK => assumption); (case k1 => k_asm); (case k2 => k_asm); (case k3 => k_asm); (case k4 => k_asm); (case k5 => k_asm); (case k6 => k_is); (case k7 => k_is); (case k8 => exact Nat.le_of_ble_eq_true rfl); (case k9 => exact BindsTo.of_eq rfl); (case c5 => decide); (case kB => exact locs rfl); (case c2 => exact rfl); (case c3 => exact rfl); (case c4 => exact rfl); k_whole; intro g' L' h' FG' F' N' B' X' T' kp' l1; (try k_lt l1); (try dsimp only); (try k_lift B'); (try k_fold))))
  repeat' ((fail_if_success (with_reducible show LeaveK h₀ _ _ _ _ _ _)); first | (k_unfold; (try dsimp only)) | (k_end; wrow_close) | walk1 | (dsimp only; walk1) | (leave1; walk_say "STEP leave1"; try dsimp only) | fail "no step")
  refine leave_K (by assumption) (by assumption) (by assumption) ?_
  intro kF kN kK
  exact hret _ _ _ kF (by simpa only [List.append_toArray, List.push_toArray] using kN) kK
-- Y1
section
noncomputable def roundOf : Option (Scope × List Stmt) := match lawOf with
  | some (sc, _ :: _ :: _ :: _ :: _ :: _ :: _ :: Stmt.For _ _ q _ _ :: _) => some (sc, q)
  | _ => none
noncomputable def lineOf : Option (Scope × List Stmt) := match roundOf with
  | some (sc, _ :: _ :: Stmt.For _ _ q _ _ :: _) => some (sc, q)
  | _ => none
noncomputable def wordOf : Option (Scope × List Stmt) := match lineOf with
  | some (sc, Stmt.For _ _ q _ _ :: _) => some (sc, q)
  | _ => none
section
variable {prog : Program} {w : World} {A : Around} {E : Value → Shared → Prop} {s : Shared} {h₀ : Heap} {L l : Addr} {m : Str → Option Value} {news : List (Addr × Obj)}
theorem last_item {value slice : Expr} {xs : List Value} {v : Value} {u : Tok} {n : Nat} {Q : Value → Shared → Prop} (N : News h₀ L s.heap news) (hm : (l, listOf (xs ++ [v]).toArray n) ∈ news) (hz : xs.length ≤ 1000) (h : Q v s)
    (hs : subscripted slice false (.ref l) (.int (-1) u) = operate [.ref l, .int (-1) u] (getItem (.ref l) (.int (-1) u)) := by with_unfolding_all rfl) :
    wpAny (model prog w) A (subscriptTail value slice (.ref l) (.int (-1) u)) Q E s :=
  kde_neg (vs := xs ++ [v]) (j := xs.length) (v := v) ⟨_, (N _ hm).1, rfl, n, rfl⟩ (by decide) (by decide) (by
    unfold seqIndex?
    have e2 : ((-1 : Int) + ((xs ++ [v]).length : Int)) = (xs.length : Int) := by simp; omega
    first | (simp [e2]; done) | (simp; omega) | (split <;> simp_all; omega)) (by simp) h hs
end
theorem lex_rest3 {w : World} {c : LxP} {no : Int} {tno : Tok} {ps ps' vs : List Value} {pn pn' sn : Nat} {h₀ h h' : Heap} {L : Addr} {led : List (Addr × Obj)} (k : Keeps h h' [(c.lx, instObj 59 c.dl), lexD w c no tno, (c.pb, listOf ps.toArray pn)]) (N : News h₀ L h (lexL w c no tno ps pn vs sn ++ led)) (N' : News h₀ L h' [(c.lx, instObj 59 c.dl), lexD w c no tno, (c.pb, listOf ps'.toArray pn')]) (ok : LxOk c) (o : Off c led) : News h₀ L h' (lexL w c no tno ps' pn' vs sn ++ led) := by
  have e : lexL w c no tno ps' pn' vs sn ++ led = [(c.lx, instObj 59 c.dl), lexD w c no tno, (c.pb, listOf ps'.toArray pn')] ++ (lexM w c ++ [(c.sg, listOf vs.toArray sn), (c.ce, c.oce)] ++ led) := rfl
  have e2 : lexL w c no tno ps pn vs sn ++ led = [(c.lx, instObj 59 c.dl), lexD w c no tno, (c.pb, listOf ps.toArray pn)] ++ (lexM w c ++ [(c.sg, listOf vs.toArray sn), (c.ce, c.oce)] ++ led) := rfl
  rw [e]
  rw [e2] at N
  refine News.app N' (keeps_but k (News.sub N fun p hp => List.mem_append_left _ hp) N' (News.sub N fun p hp => List.mem_append_right _ hp) fun p hp => ?_)
  rcases List.mem_cons.mp hp with rfl | hp
  · exact .inl (.head _)
  rcases List.mem_cons.mp hp with rfl | hp
  · exact .inl (.tail _ (.head _))
  rw [List.mem_singleton.mp hp]
  refine .inr fun q hq => ?_
  have ho := ok.ho
  rcases List.mem_append.mp hq with hq | hq
  · have h9 : @LT.lt Nat _ q.1 c.pb := by
      rcases List.mem_append.mp hq with hq | hq
      · rcases List.mem_cons.mp hq with rfl | hq
        · dsimp only; omega
        rcases List.mem_cons.mp hq with rfl | hq
        · dsimp only; omega
        rcases List.mem_cons.mp hq with rfl | hq
        · dsimp only; omega
        · rw [List.mem_singleton.mp hq]; dsimp only; omega
      · rcases List.mem_cons.mp hq with rfl | hq
        · dsimp only; omega
        · rw [List.mem_singleton.mp hq]; dsimp only; omega
    exact Nat.ne_of_gt h9
  · exact (o q hq).2.1
set_option maxHeartbeats 8000000 in
theorem push_pack {w : World} {A₀ : Around} {base h₀ : Heap} {outer : List Env} {L a : Addr} {m mg mb : Str → Option Value} {s : Shared} {Q E : Value → Shared → Prop} {p : Program} {loose : List Str} {mean : ExcName → Option Value} {cn : Str} {cs : Scope} {ccd : Value} {cl : List (Str × Addr)} {gd : Option (List Code)} {c : LxP} {led : List (Addr × Obj)} {no : Int} {tno : Tok} {ps vs : List Value} {pn sn : Nat} {pws : List (List Nat)} {r wd : List Nat} {tw : Tok} (ok : LxOk c) (hp : Words ps pws) (hv : Signs vs r.reverse)
    (B : Below A₀ base outer h₀) (F : Fr h₀ L s.heap m) (X : (Mine.KL w.params).In h₀) (T : Top p loose mean mg mb h₀) (hk : cs.kind = .function) (N : News h₀ L s.heap (lexL w c no tno ps pn vs sn ++ led)) (off : Off c led) (hz : pws.length ≤ 1000000)
    (hret : ∀ l' h' tk', LxAt w c no (pws ++ [wd]) r l' → l'.map Prod.fst = (lexL w c no tno ps pn vs sn).map Prod.fst → Fr h₀ L h' m → News h₀ L h' (l' ++ led) → Q .none { s with heap := h', toks := tk' }) :
    wpAny (model PySem.Challenge.rw_st0010_01.row.prog w) (ktrTop 500 500 gd cn cs L a ccd cl outer) (call (.ref 56) [.ref c.lx, .str ⟨wd.toArray⟩ tw]) Q E s := by
  have hpl := hp.length
  refine spec_push B F X (News.sub N (mem_cons' (.head _) (mem_cons' (.tail _ (.head _)) (mem_one (.tail _ (.tail _ (.head _))))))) T hk ⟨ok.ho.2.2.2.2.2.2.1, ok.ho.2.2.2.2.2.2.2⟩ (by omega) fun pn' h' tk' FA NA KA => ?_
  exact hret (lexL w c no tno (ps ++ [Value.str ⟨wd.toArray⟩ tw]) pn' vs sn) h' tk' ⟨tno, _, pn', vs, sn, rfl, hp.append (.cons rfl .nil), hv⟩ lex_addr FA (lex_rest3 KA N NA ok off)
set_option maxHeartbeats 8000000 in
theorem word_turn {w : World} {A₀ : Around} {base g : Heap} {L1 fa : Addr} {cd : Value} {mg mb : Str → Option Value} {s : Shared} {Q : Flow → Shared → Prop} {E : Value → Shared → Prop} {p : Program} {loose : List Str} {mean : ExcName → Option Value} {nm : Str} {sc : Scope} {m : Str → Option Value} {led : List (Addr × Obj)} {c : LxP} {l : List (Addr × Obj)} {no : Int} {pws : List (List Nat)} {r : List Nat} {gl : Addr} {gs : List Value} {gn : Nat} {z : Int} {tz : Tok} {og : Obj} {S : List Stmt} {wd : List Nat} {tw : Tok}
    (hP : wordOf = some (sc, S)) (B1 : Below A₀ base [] g) (F0 : Fr g L1 s.heap m) (X1 : (Mine.KL w.params).In g) (T1 : Top p loose mean mg mb g) (N0 : News g L1 s.heap ((gl, listOf (gs ++ [Value.int z tz]).toArray gn) :: (L1 + 1 + 1 + 1 + 1, og) :: (l ++ led))) (hl : LxAt w c no pws r l) (ok : LxOk c) (hwm : m (Str.ofString "word") = some (.str ⟨wd.toArray⟩ tw)) (hlx : m (Str.ofString "lexer") = some (.ref c.lx)) (hwd : num wd ≠ 0) (hdg : og.data = .cell (some (.ref gl))) (off : Off c ((gl, listOf (gs ++ [Value.int z tz]).toArray gn) :: (L1 + 1 + 1 + 1 + 1, og) :: led)) (hz : pws.length ≤ 1000000) (hgz : gs.length ≤ 1000)
    (hret : ∀ l' h' tk', LxAt w c no (if num wd = z then pws else pws ++ [wd]) r l' → l'.map Prod.fst = l.map Prod.fst → Fr g L1 h' m → News g L1 h' ((gl, listOf (gs ++ [Value.int z tz]).toArray gn) :: (L1 + 1 + 1 + 1 + 1, og) :: (l' ++ led)) → Q .next { s with heap := h', toks := tk' }) :
    wpAny (model PySem.Challenge.rw_st0010_01.row.prog w) (callerA.deeper (envOfC nm sc L1 fa cd)) (execs S (envOfC nm sc L1 fa cd)) Q E s := by
  obtain ⟨h0, g0, r9, k0, os0⟩ := s
  dsimp only at F0 N0 hret ⊢
  conv at hP => lhs; whnf
  injection hP with hP
  injection hP with hP1 hP2
  subst hP1 hP2
  revert X1; k_fill; intro X1
  have hl2 := hl
  obtain ⟨tno, ps, pn, vs, sn, rfl, hp, hv⟩ := hl
  have N3 : News g L1 h0 ((gl, listOf (gs ++ [Value.int z tz]).toArray gn) :: (L1 + 1 + 1 + 1 + 1, og) :: (c.lx, instObj 59 c.dl) :: (c.dl, dictOf [{ hash := PyData.keyHash w.params (Str.ofString "lineno"), key := Value.str (Str.ofString "lineno") c.k1, val := Value.int no tno }, { hash := PyData.keyHash w.params (Str.ofString "instream"), key := Value.str (Str.ofString "instream") c.k2, val := Value.ref c.st }, { hash := PyData.keyHash w.params (Str.ofString "whitespace"), key := Value.str (Str.ofString "whitespace") c.k3, val := Value.str (Str.ofString "\n\t\x0d ") c.k4 }, { hash := PyData.keyHash w.params (Str.ofString "pushback"), key := Value.str (Str.ofString "pushback") c.k5, val := Value.ref c.pb }] 4) :: (lexR w c ps pn vs sn ++ led)) := N0
  clear N0
  repeat' ((fail_if_success (with_reducible show wpAny _ _ (pyIter _) _ _ _)); (fail_if_success (with_reducible show wpAny _ _ (newList _) _ _ _)); (fail_if_success (with_reducible show wpAny _ _ (exec (Stmt.For _ _ _ _ _) _) _ _ _)); (fail_if_success (with_reducible show ∃ _, _)); (fail_if_success (with_reducible show LeaveK h₀ _ _ _ _ _ _)); (fail_if_success (with_reducible show wpAny _ _ (call (Value.ref 94) _) _ _ _)); (fail_if_success (with_reducible show wpAny _ _ (call (Value.ref 101) _) _ _ _)); (fail_if_success (with_reducible show wpAny _ _ (call (Value.ref 106) _) _ _ _)); (fail_if_success (with_reducible show wpAny _ _ (call (Value.ref 87) _) _ _ _)); (fail_if_success (with_reducible show wpAny _ _ (call (Value.ref 113) _) _ _ _)); (fail_if_success (with_reducible show wpAny _ _ (call (Value.ref 118) _) _ _ _)); (fail_if_success (with_reducible show wpAny _ _ (call (Value.ref 56) _) _ _ _)); first | (k_unfold; (try dsimp only)) | (k_end; wrow_close) | (first | ((with_reducible show wpAny _ _ (eval (PySem.Expr.Name _ _) _) _ _ _); with_reducible ((k_here; k_dflt (refine' nameX_L ?F ?v ?_ ?a ?b; (case F => k_asm); (case a => rfl); (case b => rfl); (case v => with_reducible assumption); k_whole)))) | (with_reducible ((k_here; (with_reducible show wpAny _ _ (subscriptTail _ _ (Value.ref _) (Value.int (-1) _)) _ _ _); k_dflt (refine' last_item ?N ?hm ?hz ?_; (case N => k_asm); (case hm => k_mem); (case hz => assumption))))) | (with_reducible ((k_here; (with_reducible show wpAny _ _ (subscriptTail _ _ (Value.ref 64) (Value.str _ _)) _ _ _); k_dflt (refine' ett_item ?F ?X ?hx ?_; (case F => k_asm); (case X => k_asm); (case hx => assumption)); intro _))) | walk1) | (dsimp only; (first | ((with_reducible show wpAny _ _ (eval (PySem.Expr.Name _ _) _) _ _ _); with_reducible ((k_here; k_dflt (refine' nameX_L ?F ?v ?_ ?a ?b; (case F => k_asm); (case a => rfl); (case b => rfl); (case v => with_reducible assumption); k_whole)))) | (with_reducible ((k_here; (with_reducible show wpAny _ _ (subscriptTail _ _ (Value.ref _) (Value.int (-1) _)) _ _ _); k_dflt (refine' last_item ?N ?hm ?hz ?_; (case N => k_asm); (case hm => k_mem); (case hz => assumption))))) | (with_reducible ((k_here; (with_reducible show wpAny _ _ (subscriptTail _ _ (Value.ref 64) (Value.str _ _)) _ _ _); k_dflt (refine' ett_item ?F ?X ?hx ?_; (case F => k_asm); (case X => k_asm); (case hx => assumption)); intro _))) | walk1)) | (leave1; walk_say "STEP leave1"; try dsimp only) | fail "no step")
  · rename num wd ≠ z => hne
    (refine' wpAny_le (A' := ktrTop 500 500 callerA.guards nm ?csw L1 fa cd ?clw []) ?hhw ?a1w ?a2w ?a3w ?a4w ?a5w; (case a3w => exact rfl); (case a1w => exact rfl); (case a2w => exact Nat.le_of_ble_eq_true rfl); (case a4w => exact rfl); (case a5w => exact Nat.le_of_ble_eq_true rfl))
    refine push_pack (led := (gl, listOf (gs ++ [Value.int z tz]).toArray gn) :: (L1 + 1 + 1 + 1 + 1, og) :: led) (tno := tno) (pn := pn) (sn := sn) (no := no) ok hp hv B1 F0 X1 T1 rfl (News.sub N3 fun q hq => ?_) off hz (fun l' h' tk' a b F2 N2 => ?_)
    · rcases List.mem_append.mp hq with hq | hq
      · exact .tail _ (.tail _ (List.mem_append_left led hq))
      rcases List.mem_cons.mp hq with rfl | hq
      · exact .head _
      rcases List.mem_cons.mp hq with rfl | hq
      · exact .tail _ (.head _)
      · exact .tail _ (.tail _ (List.mem_append_right (lexL w c no tno ps pn vs sn) hq))
    clear N3 F0
    dsimp only
    repeat' ((fail_if_success (with_reducible show wpAny _ _ (pyIter _) _ _ _)); (fail_if_success (with_reducible show wpAny _ _ (newList _) _ _ _)); (fail_if_success (with_reducible show wpAny _ _ (exec (Stmt.For _ _ _ _ _) _) _ _ _)); (fail_if_success (with_reducible show ∃ _, _)); (fail_if_success (with_reducible show LeaveK h₀ _ _ _ _ _ _)); (fail_if_success (with_reducible show wpAny _ _ (call (Value.ref 94) _) _ _ _)); (fail_if_success (with_reducible show wpAny _ _ (call (Value.ref 101) _) _ _ _)); (fail_if_success (with_reducible show wpAny _ _ (call (Value.ref 106) _) _ _ _)); (fail_if_success (with_reducible show wpAny _ _ (call (Value.ref 87) _) _ _ _)); (fail_if_success (with_reducible show wpAny _ _ (call (Value.ref 113) _) _ _ _)); (fail_if_success (with_reducible show wpAny _ _ (call (Value.ref 118) _) _ _ _)); (fail_if_success (with_reducible show wpAny _ _ (call (Value.ref 56) _) _ _ _)); first | (k_unfold; (try dsimp only)) | (k_end; wrow_close) | (first | ((with_reducible show wpAny _ _ (eval (PySem.Expr.Name _ _) _) _ _ _); with_reducible ((k_here; k_dflt (refine' nameX_L ?F ?v ?_ ?a ?b; (case F => k_asm); (case a => rfl); (case b => rfl); (case v => with_reducible assumption); k_whole)))) | (with_reducible ((k_here; (with_reducible show wpAny _ _ (subscriptTail _ _ (Value.ref _) (Value.int (-1) _)) _ _ _); k_dflt (refine' last_item ?N ?hm ?hz ?_; (case N => k_asm); (case hm => k_mem); (case hz => assumption))))) | (with_reducible ((k_here; (with_reducible show wpAny _ _ (subscriptTail _ _ (Value.ref 64) (Value.str _ _)) _ _ _); k_dflt (refine' ett_item ?F ?X ?hx ?_; (case F => k_asm); (case X => k_asm); (case hx => assumption)); intro _))) | walk1) | (dsimp only; (first | ((with_reducible show wpAny _ _ (eval (PySem.Expr.Name _ _) _) _ _ _); with_reducible ((k_here; k_dflt (refine' nameX_L ?F ?v ?_ ?a ?b; (case F => k_asm); (case a => rfl); (case b => rfl); (case v => with_reducible assumption); k_whole)))) | (with_reducible ((k_here; (with_reducible show wpAny _ _ (subscriptTail _ _ (Value.ref _) (Value.int (-1) _)) _ _ _); k_dflt (refine' last_item ?N ?hm ?hz ?_; (case N => k_asm); (case hm => k_mem); (case hz => assumption))))) | (with_reducible ((k_here; (with_reducible show wpAny _ _ (subscriptTail _ _ (Value.ref 64) (Value.str _ _)) _ _ _); k_dflt (refine' ett_item ?F ?X ?hx ?_; (case F => k_asm); (case X => k_asm); (case hx => assumption)); intro _))) | walk1)) | (leave1; walk_say "STEP leave1"; try dsimp only) | fail "no step")
    exact hret l' _ _ (by rw [if_neg hne]; exact a) b F2 (News.sub N2 fun q hq => by
      rcases List.mem_cons.mp hq with rfl | hq
      · exact List.mem_append_right _ (.head _)
      rcases List.mem_cons.mp hq with rfl | hq
      · exact List.mem_append_right _ (.tail _ (.head _))
      rcases List.mem_append.mp hq with hq | hq
      · exact List.mem_append_left _ hq
      · exact List.mem_append_right _ (.tail _ (.tail _ hq)))
  · rename num wd = z => hne
    exact hret _ _ _ (by rw [if_pos hne]; exact hl2) rfl F0 N3
end
-- Y2
theorem Words.get {vs : List Value} {cs : List (List Nat)} (h : Words vs cs) : ∀ (i : Nat) (v : Value), vs[i]? = some v → ∃ c t, cs[i]? = some c ∧ v = .str ⟨c.toArray⟩ t := by
  induction h with
  | nil => intro i v e; simp at e
  | cons e h ih =>
    intro i v e'
    cases i with
    | zero =>
      simp only [List.getElem?_cons_zero, Option.some.injEq] at e' ⊢
      exact ⟨_, _, rfl, e' ▸ e⟩
    | succ i =>
      simp only [List.getElem?_cons_succ] at e' ⊢
      exact ih i v e'
theorem filter_take {α : Type} (p : α → Bool) {l : List α} {i : Nat} {x : α} (h : l[i]? = some x) : (l.take (i + 1)).filter p = (l.take i).filter p ++ (if p x then [x] else []) := by
  rw [List.take_add_one, h, List.filter_append]
  cases e : p x <;> simp [e]
theorem str_nil : Str.ofString "" = ⟨([] : List Nat).toArray⟩ := by decide +kernel
inductive WJ (w : World) (c : LxP) (m : Str → Option Value) (l led : List (Addr × Obj)) (a b : Addr × Obj) (no : Int) (z : Int) (r : List Nat) (pws ops : List (List Nat)) : Nat → (Str → Option Value) → List (Addr × Obj) → Prop
  | mk {i : Nat} {l1 : List (Addr × Obj)} {m1 : Str → Option Value} : LxAt w c no (pws ++ (ops.take i).filter fun o => !decide (num o = z)) r l1 → l1.map Prod.fst = l.map Prod.fst → (∀ y, y ≠ Str.ofString "word" → m1 y = m y) → WJ w c m l led a b no z r pws ops i m1 (a :: b :: (l1 ++ led))
set_option maxHeartbeats 8000000 in
theorem word_loop {w : World} {A₀ : Around} {base g : Heap} {L1 fa : Addr} {cd : Value} {mg mb : Str → Option Value} {s : Shared} {Q : Flow → Shared → Prop} {E : Value → Shared → Prop} {p : Program} {loose : List Str} {mean : ExcName → Option Value} {nm : Str} {sc : Scope} {m : Str → Option Value} {led : List (Addr × Obj)} {c : LxP} {l : List (Addr × Obj)} {no : Int} {pws : List (List Nat)} {r : List Nat} {gl : Addr} {gs : List Value} {gn : Nat} {z : Int} {tz : Tok} {og : Obj} {S : List Stmt} {al : Addr} {us : List Value} {un : Nat} {ops : List (List Nat)}
    (hP : wordOf = some (sc, S)) (B1 : Below A₀ base [] g) (F0 : Fr g L1 s.heap m) (X1 : (Mine.KL w.params).In g) (T1 : Top p loose mean mg mb g) (N0 : News g L1 s.heap ((gl, listOf (gs ++ [Value.int z tz]).toArray gn) :: (L1 + 1 + 1 + 1 + 1, og) :: (l ++ led))) (hal : (al, listOf us.toArray un) ∈ led) (hl : LxAt w c no pws r l) (ok : LxOk c) (hlx : m (Str.ofString "lexer") = some (.ref c.lx)) (hw : Words us ops) (hn : ∀ o ∈ ops, num o ≠ 0) (hdg : og.data = .cell (some (.ref gl))) (off : Off c ((gl, listOf (gs ++ [Value.int z tz]).toArray gn) :: (L1 + 1 + 1 + 1 + 1, og) :: led)) (hz : pws.length + ops.length ≤ 1000) (hgz : gs.length ≤ 1000)
    (hret : ∀ m' l' h' tk', LxAt w c no (pws ++ ops.filter fun o => !decide (num o = z)) r l' → l'.map Prod.fst = l.map Prod.fst → (∀ y, y ≠ Str.ofString "word" → m' y = m y) → Fr g L1 h' m' → News g L1 h' ((gl, listOf (gs ++ [Value.int z tz]).toArray gn) :: (L1 + 1 + 1 + 1 + 1, og) :: (l' ++ led)) → Q .next { s with heap := h', toks := tk' }) :
    wpAny (model PySem.Challenge.rw_st0010_01.row.prog w) (callerA.deeper (envOfC nm sc L1 fa cd)) (pyIter (.ref al)) (fun it s₂ => LoopAtV PySem.Challenge.rw_st0010_01.row.prog w (callerA.deeper (envOfC nm sc L1 fa cd)) g (envOfC nm sc L1 fa cd) (Str.ofString "word") S Q E it s₂) E s := by
  obtain ⟨o9, hpb⟩ := hl.pb
  have lpb : @LT.lt Nat _ c.pb s.heap.objs.size := Heap.lt_size (N0 (c.pb, o9) (.tail _ (.tail _ (List.mem_append_left _ hpb)))).1
  have hlen := hw.length
  refine for_list rfl F0 N0 (.tail _ (.tail _ (List.mem_append_right _ hal))) (WJ w c m l led (gl, listOf (gs ++ [Value.int z tz]).toArray gn) (L1 + 1 + 1 + 1 + 1, og) no z r pws ops) (.mk (by simpa using hl) rfl fun _ _ => rfl) ?_ ?_
  · rintro i v m₁ news₁ h tk own Q' hv ⟨hl1, ha1, hm1⟩ hown F1 N1 hk
    rename_i l1
    obtain ⟨o, t, ho, rfl⟩ := hw.get i v hv
    have oo : Off c own := fun q hq => by
      rcases hown q hq with e | e
      · rw [e]; exact Off.above ok lpb
      · rw [e]; exact off (al, listOf us.toArray un) (.tail _ (.tail _ hal))
    have hfl := List.length_filter_le (fun o => !decide (num o = z)) (ops.take i)
    have htl := List.length_take_le' i ops
    refine word_turn (z := z) (gn := gn) (tz := tz) (led := led ++ own) hP B1 F1 X1 T1 (News.sub N1 fun q hq => ?_) hl1 ok (if_pos rfl) ((if_neg (by decide)).trans ((hm1 _ (by decide)).trans hlx)) (hn o (List.mem_of_getElem? ho)) hdg (fun q hq => ?_) (by rw [List.length_append]; omega) hgz fun l' h' tk' a b F2 N2 => ?_
    · rw [← List.append_assoc] at hq
      rcases List.mem_cons.mp hq with rfl | hq
      · exact List.mem_append_right _ (.head _)
      rcases List.mem_cons.mp hq with rfl | hq
      · exact List.mem_append_right _ (.tail _ (.head _))
      rcases List.mem_append.mp hq with hq | hq
      · exact List.mem_append_right _ (.tail _ (.tail _ hq))
      · exact List.mem_append_left _ hq
    · rcases List.mem_cons.mp hq with rfl | hq
      · exact off _ (.head _)
      rcases List.mem_cons.mp hq with rfl | hq
      · exact off _ (.tail _ (.head _))
      rcases List.mem_append.mp hq with hq | hq
      · exact off q (.tail _ (.tail _ hq))
      · exact oo q hq
    · have e : (if num o = z then pws ++ (ops.take i).filter (fun o => !decide (num o = z)) else (pws ++ (ops.take i).filter fun o => !decide (num o = z)) ++ [o]) = pws ++ (ops.take (i + 1)).filter fun o => !decide (num o = z) := by
        rw [filter_take _ ho]
        by_cases e : num o = z <;> simp [e]
      rw [e] at a
      refine hk h' tk' _ ((gl, listOf (gs ++ [Value.int z tz]).toArray gn) :: (L1 + 1 + 1 + 1 + 1, og) :: (l' ++ led)) F2 (News.sub N2 fun q hq => ?_) ?_ (.mk a (b.trans ha1) fun y hy => (if_neg hy).trans (hm1 y hy))
      · rw [← List.append_assoc]
        rcases List.mem_append.mp hq with hq | hq
        · exact .tail _ (.tail _ (List.mem_append_right _ hq))
        rcases List.mem_cons.mp hq with rfl | hq
        · exact .head _
        rcases List.mem_cons.mp hq with rfl | hq
        · exact .tail _ (.head _)
        · exact .tail _ (.tail _ (List.mem_append_left _ hq))
      · rw [List.map_cons, List.map_cons, List.map_cons, List.map_cons, List.map_append, List.map_append, b]
  · intro h' tk m1 nw F5 N5 hJ
    generalize hk5 : us.length = k5 at hJ
    cases hJ with
    | mk a b e =>
      rw [List.take_of_length_le (by omega)] at a
      exact hret m1 _ h' tk a b e F5 N5
set_option maxHeartbeats 8000000 in
theorem line_turn {w : World} {A₀ : Around} {base g : Heap} {L1 fa : Addr} {cd : Value} {mg mb : Str → Option Value} {s : Shared} {Q : Flow → Shared → Prop} {E : Value → Shared → Prop} {p : Program} {loose : List Str} {mean : ExcName → Option Value} {nm : Str} {sc : Scope} {m : Str → Option Value} {led : List (Addr × Obj)} {c : LxP} {l : List (Addr × Obj)} {no : Int} {pws : List (List Nat)} {r : List Nat} {gl : Addr} {gs : List Value} {gn : Nat} {z : Int} {tz : Tok} {og : Obj} {S : List Stmt} {al : Addr} {us : List Value} {un : Nat} {ops : List (List Nat)}
    (hP : lineOf = some (sc, S)) (B1 : Below A₀ base [] g) (F0 : Fr g L1 s.heap m) (X1 : (Mine.KL w.params).In g) (T1 : Top p loose mean mg mb g) (N0 : News g L1 s.heap ((gl, listOf (gs ++ [Value.int z tz]).toArray gn) :: (L1 + 1 + 1 + 1 + 1, og) :: (l ++ led))) (hal : (al, listOf us.toArray un) ∈ led) (hl : LxAt w c no pws r l) (ok : LxOk c) (hlx : m (Str.ofString "lexer") = some (.ref c.lx)) (hln : m (Str.ofString "line") = some (.ref al)) (hw : Words us ops) (hn : ∀ o ∈ ops, num o ≠ 0) (hdg : og.data = .cell (some (.ref gl))) (off : Off c ((gl, listOf (gs ++ [Value.int z tz]).toArray gn) :: (L1 + 1 + 1 + 1 + 1, og) :: led)) (hz : pws.length + ops.length ≤ 1000) (hgz : gs.length ≤ 1000)
    (hret : ∀ m' l' h' tk', LxAt w c no (pws ++ (ops.filter fun o => !decide (num o = z)) ++ [[]]) r l' → l'.map Prod.fst = l.map Prod.fst → (∀ y, y ≠ Str.ofString "word" → m' y = m y) → Fr g L1 h' m' → News g L1 h' ((gl, listOf (gs ++ [Value.int z tz]).toArray gn) :: (L1 + 1 + 1 + 1 + 1, og) :: (l' ++ led)) → Q .next { s with heap := h', toks := tk' }) :
    wpAny (model PySem.Challenge.rw_st0010_01.row.prog w) (callerA.deeper (envOfC nm sc L1 fa cd)) (execs S (envOfC nm sc L1 fa cd)) Q E s := by
  obtain ⟨h0, g0, r9, k0, os0⟩ := s
  dsimp only at F0 N0 hret ⊢
  conv at hP => lhs; whnf
  injection hP with hP
  injection hP with hP1 hP2
  subst hP1 hP2
  revert X1; k_fill; intro X1
  refine wpAny_mono (Q := Q) (E := fun _ _ => False) ?_ (fun _ _ q => q) (fun _ _ f => False.elim f)
  refine wpAny_execs_cons (For_invVF F0 (by rfl) (by rfl) ?_)
  repeat' ((fail_if_success (with_reducible show wpAny _ _ (pyIter _) _ _ _)); (fail_if_success (with_reducible show wpAny _ _ (newList _) _ _ _)); (fail_if_success (with_reducible show wpAny _ _ (exec (Stmt.For _ _ _ _ _) _) _ _ _)); (fail_if_success (with_reducible show ∃ _, _)); (fail_if_success (with_reducible show LeaveK h₀ _ _ _ _ _ _)); (fail_if_success (with_reducible show wpAny _ _ (call (Value.ref 94) _) _ _ _)); (fail_if_success (with_reducible show wpAny _ _ (call (Value.ref 101) _) _ _ _)); (fail_if_success (with_reducible show wpAny _ _ (call (Value.ref 106) _) _ _ _)); (fail_if_success (with_reducible show wpAny _ _ (call (Value.ref 87) _) _ _ _)); (fail_if_success (with_reducible show wpAny _ _ (call (Value.ref 113) _) _ _ _)); (fail_if_success (with_reducible show wpAny _ _ (call (Value.ref 118) _) _ _ _)); (fail_if_success (with_reducible show wpAny _ _ (call (Value.ref 56) _) _ _ _)); first | (k_unfold; (try dsimp only)) | (k_end; wrow_close) | (first | ((with_reducible show wpAny _ _ (eval (PySem.Expr.Name _ _) _) _ _ _); with_reducible ((k_here; k_dflt (refine' nameX_L ?F ?v ?_ ?a ?b; (case F => k_asm); (case a => rfl); (case b => rfl); (case v => with_reducible assumption); k_whole)))) | walk1) | (dsimp only; (first | ((with_reducible show wpAny _ _ (eval (PySem.Expr.Name _ _) _) _ _ _); with_reducible ((k_here; k_dflt (refine' nameX_L ?F ?v ?_ ?a ?b; (case F => k_asm); (case a => rfl); (case b => rfl); (case v => with_reducible assumption); k_whole)))) | walk1)) | (leave1; walk_say "STEP leave1"; try dsimp only) | fail "no step")
  refine word_loop rfl B1 F0 X1 T1 N0 hal hl ok hlx hw hn hdg off hz hgz fun m1 l1 h1 tk1 a1 b1 e1 F1 N1 => ?_
  clear F0 N0
  have hlx1 : m1 (Str.ofString "lexer") = some (.ref c.lx) := (e1 _ (by decide)).trans hlx
  have hfl := List.length_filter_le (fun o => !decide (num o = z)) ops
  obtain ⟨tno, ps, pn, vs, sn, rfl, hp, hv⟩ := a1
  have N3 : News g L1 h1 ((gl, listOf (gs ++ [Value.int z tz]).toArray gn) :: (L1 + 1 + 1 + 1 + 1, og) :: (c.lx, instObj 59 c.dl) :: (c.dl, dictOf [{ hash := PyData.keyHash w.params (Str.ofString "lineno"), key := Value.str (Str.ofString "lineno") c.k1, val := Value.int no tno }, { hash := PyData.keyHash w.params (Str.ofString "instream"), key := Value.str (Str.ofString "instream") c.k2, val := Value.ref c.st }, { hash := PyData.keyHash w.params (Str.ofString "whitespace"), key := Value.str (Str.ofString "whitespace") c.k3, val := Value.str (Str.ofString "\n\t\x0d ") c.k4 }, { hash := PyData.keyHash w.params (Str.ofString "pushback"), key := Value.str (Str.ofString "pushback") c.k5, val := Value.ref c.pb }] 4) :: (lexR w c ps pn vs sn ++ led)) := N1
  clear N1
  dsimp only
  repeat' ((fail_if_success (with_reducible show wpAny _ _ (pyIter _) _ _ _)); (fail_if_success (with_reducible show wpAny _ _ (newList _) _ _ _)); (fail_if_success (with_reducible show wpAny _ _ (exec (Stmt.For _ _ _ _ _) _) _ _ _)); (fail_if_success (with_reducible show ∃ _, _)); (fail_if_success (with_reducible show LeaveK h₀ _ _ _ _ _ _)); (fail_if_success (with_reducible show wpAny _ _ (call (Value.ref 94) _) _ _ _)); (fail_if_success (with_reducible show wpAny _ _ (call (Value.ref 101) _) _ _ _)); (fail_if_success (with_reducible show wpAny _ _ (call (Value.ref 106) _) _ _ _)); (fail_if_success (with_reducible show wpAny _ _ (call (Value.ref 87) _) _ _ _)); (fail_if_success (with_reducible show wpAny _ _ (call (Value.ref 113) _) _ _ _)); (fail_if_success (with_reducible show wpAny _ _ (call (Value.ref 118) _) _ _ _)); (fail_if_success (with_reducible show wpAny _ _ (call (Value.ref 56) _) _ _ _)); first | (k_unfold; (try dsimp only)) | (k_end; wrow_close) | (first | ((with_reducible show wpAny _ _ (eval (PySem.Expr.Name _ _) _) _ _ _); with_reducible ((k_here; k_dflt (refine' nameX_L ?F ?v ?_ ?a ?b; (case F => k_asm); (case a => rfl); (case b => rfl); (case v => with_reducible assumption); k_whole)))) | walk1) | (dsimp only; (first | ((with_reducible show wpAny _ _ (eval (PySem.Expr.Name _ _) _) _ _ _); with_reducible ((k_here; k_dflt (refine' nameX_L ?F ?v ?_ ?a ?b; (case F => k_asm); (case a => rfl); (case b => rfl); (case v => with_reducible assumption); k_whole)))) | walk1)) | (leave1; walk_say "STEP leave1"; try dsimp only) | fail "no step")
  (refine' wpAny_le (A' := ktrTop 500 500 callerA.guards nm ?csw L1 fa cd ?clw []) ?hhw ?a1w ?a2w ?a3w ?a4w ?a5w; (case a3w => exact rfl); (case a1w => exact rfl); (case a2w => exact Nat.le_of_ble_eq_true rfl); (case a4w => exact rfl); (case a5w => exact Nat.le_of_ble_eq_true rfl))
  rw [str_nil]
  refine push_pack (led := (gl, listOf (gs ++ [Value.int z tz]).toArray gn) :: (L1 + 1 + 1 + 1 + 1, og) :: led) (tno := tno) (pn := pn) (sn := sn) (no := no) ok hp hv B1 F1 X1 T1 rfl (News.sub N3 fun q hq => ?_) off (by rw [List.length_append]; omega) (fun l' h' tk' a b F2 N2 => ?_)
  · rcases List.mem_append.mp hq with hq | hq
    · exact .tail _ (.tail _ (List.mem_append_left led hq))
    rcases List.mem_cons.mp hq with rfl | hq
    · exact .head _
    rcases List.mem_cons.mp hq with rfl | hq
    · exact .tail _ (.head _)
    · exact .tail _ (.tail _ (List.mem_append_right (lexL w c no tno ps pn vs sn) hq))
  clear N3 F1
  dsimp only
  repeat' ((fail_if_success (with_reducible show wpAny _ _ (pyIter _) _ _ _)); (fail_if_success (with_reducible show wpAny _ _ (newList _) _ _ _)); (fail_if_success (with_reducible show wpAny _ _ (exec (Stmt.For _ _ _ _ _) _) _ _ _)); (fail_if_success (with_reducible show ∃ _, _)); (fail_if_success (with_reducible show LeaveK h₀ _ _ _ _ _ _)); (fail_if_success (with_reducible show wpAny _ _ (call (Value.ref 94) _) _ _ _)); (fail_if_success (with_reducible show wpAny _ _ (call (Value.ref 101) _) _ _ _)); (fail_if_success (with_reducible show wpAny _ _ (call (Value.ref 106) _) _ _ _)); (fail_if_success (with_reducible show wpAny _ _ (call (Value.ref 87) _) _ _ _)); (fail_if_success (with_reducible show wpAny _ _ (call (Value.ref 113) _) _ _ _)); (fail_if_success (with_reducible show wpAny _ _ (call (Value.ref 118) _) _ _ _)); (fail_if_success (with_reducible show wpAny _ _ (call (Value.ref 56) _) _ _ _)); first | (k_unfold; (try dsimp only)) | (k_end; wrow_close) | (first | ((with_reducible show wpAny _ _ (eval (PySem.Expr.Name _ _) _) _ _ _); with_reducible ((k_here; k_dflt (refine' nameX_L ?F ?v ?_ ?a ?b; (case F => k_asm); (case a => rfl); (case b => rfl); (case v => with_reducible assumption); k_whole)))) | walk1) | (dsimp only; (first | ((with_reducible show wpAny _ _ (eval (PySem.Expr.Name _ _) _) _ _ _); with_reducible ((k_here; k_dflt (refine' nameX_L ?F ?v ?_ ?a ?b; (case F => k_asm); (case a => rfl); (case b => rfl); (case v => with_reducible assumption); k_whole)))) | walk1)) | (leave1; walk_say "STEP leave1"; try dsimp only) | fail "no step")
  exact hret m1 l' _ _ a (b.trans b1) e1 F2 (News.sub N2 fun q hq => by
    rcases List.mem_cons.mp hq with rfl | hq
    · exact List.mem_append_right _ (.head _)
    rcases List.mem_cons.mp hq with rfl | hq
    · exact List.mem_append_right _ (.tail _ (.head _))
    rcases List.mem_append.mp hq with hq | hq
    · exact List.mem_append_left _ hq
    · exact List.mem_append_right _ (.tail _ (.tail _ hq)))
noncomputable def lnPush (z : Int) (x : Ln) : List (List Nat) := (x.ops.filter fun o => !decide (num o = z)) ++ [[]]
noncomputable def LnOk (x : Ln) : Prop := Words x.us x.ops ∧ (∀ o ∈ x.ops, num o ≠ 0) ∧ x.ops.length ≤ 4
inductive NJ (w : World) (c : LxP) (m : Str → Option Value) (l led : List (Addr × Obj)) (a b : Addr × Obj) (no : Int) (z : Int) (r : List Nat) (pws : List (List Nat)) (LS : List Ln) : Nat → (Str → Option Value) → List (Addr × Obj) → Prop
  | mk {i : Nat} {l1 : List (Addr × Obj)} {m1 : Str → Option Value} : LxAt w c no (pws ++ (LS.take i).flatMap (lnPush z)) r l1 → l1.map Prod.fst = l.map Prod.fst → (pws ++ (LS.take i).flatMap (lnPush z)).length ≤ pws.length + 5 * i → (∀ y, y ≠ Str.ofString "word" → y ≠ Str.ofString "line" → m1 y = m y) → NJ w c m l led a b no z r pws LS i m1 (a :: b :: (l1 ++ led))
set_option maxHeartbeats 8000000 in
theorem lines_loop {w : World} {A₀ : Around} {base g : Heap} {L1 fa : Addr} {cd : Value} {mg mb : Str → Option Value} {s : Shared} {Q : Flow → Shared → Prop} {E : Value → Shared → Prop} {p : Program} {loose : List Str} {mean : ExcName → Option Value} {nm : Str} {sc : Scope} {m : Str → Option Value} {led : List (Addr × Obj)} {c : LxP} {l : List (Addr × Obj)} {no : Int} {pws : List (List Nat)} {r : List Nat} {gl : Addr} {gs : List Value} {gn : Nat} {z : Int} {tz : Tok} {og : Obj} {S : List Stmt} {lls : Addr} {nl : Nat} {LS : List Ln}
    (hP : lineOf = some (sc, S)) (B1 : Below A₀ base [] g) (F0 : Fr g L1 s.heap m) (X1 : (Mine.KL w.params).In g) (T1 : Top p loose mean mg mb g) (N0 : News g L1 s.heap ((gl, listOf (gs ++ [Value.int z tz]).toArray gn) :: (L1 + 1 + 1 + 1 + 1, og) :: (l ++ led))) (hal : (lls, listOf (List.toArray (LS.map lnRef)) nl) ∈ led) (hLS : ∀ x ∈ LS, LnOk x ∧ lnObj x ∈ led) (hl : LxAt w c no pws r l) (ok : LxOk c) (hlx : m (Str.ofString "lexer") = some (.ref c.lx)) (hdg : og.data = .cell (some (.ref gl))) (off : Off c ((gl, listOf (gs ++ [Value.int z tz]).toArray gn) :: (L1 + 1 + 1 + 1 + 1, og) :: led)) (hz : pws.length + 5 * LS.length ≤ 900) (hgz : gs.length ≤ 1000)
    (hret : ∀ m' l' h' tk', LxAt w c no (pws ++ LS.flatMap (lnPush z)) r l' → l'.map Prod.fst = l.map Prod.fst → (∀ y, y ≠ Str.ofString "word" → y ≠ Str.ofString "line" → m' y = m y) → Fr g L1 h' m' → News g L1 h' ((gl, listOf (gs ++ [Value.int z tz]).toArray gn) :: (L1 + 1 + 1 + 1 + 1, og) :: (l' ++ led)) → Q .next { s with heap := h', toks := tk' }) :
    wpAny (model PySem.Challenge.rw_st0010_01.row.prog w) (callerA.deeper (envOfC nm sc L1 fa cd)) (pyIter (.ref lls)) (fun it s₂ => LoopAtV PySem.Challenge.rw_st0010_01.row.prog w (callerA.deeper (envOfC nm sc L1 fa cd)) g (envOfC nm sc L1 fa cd) (Str.ofString "line") S Q E it s₂) E s := by
  obtain ⟨o9, hpb⟩ := hl.pb
  have lpb : @LT.lt Nat _ c.pb s.heap.objs.size := Heap.lt_size (N0 (c.pb, o9) (.tail _ (.tail _ (List.mem_append_left _ hpb)))).1
  refine for_list rfl F0 N0 (.tail _ (.tail _ (List.mem_append_right _ hal))) (NJ w c m l led (gl, listOf (gs ++ [Value.int z tz]).toArray gn) (L1 + 1 + 1 + 1 + 1, og) no z r pws LS) (.mk (by simpa using hl) rfl (by simp) fun _ _ _ => rfl) ?_ ?_
  · rintro i v m₁ news₁ h tk own Q' hv ⟨hl1, ha1, hz1, hm1⟩ hown F1 N1 hk
    rename_i l1
    rw [List.getElem?_map] at hv
    obtain ⟨x, hx, rfl⟩ := Option.map_eq_some_iff.mp hv
    have hxm : x ∈ LS := List.mem_of_getElem? hx
    obtain ⟨⟨hxw, hxn, hx4⟩, hxo⟩ := hLS x hxm
    have hil : i < LS.length := (List.getElem?_eq_some_iff.mp hx).1
    have oo : Off c own := fun q hq => by
      rcases hown q hq with e | e
      · rw [e]; exact Off.above ok lpb
      · rw [e]; exact off (lls, listOf (List.toArray (LS.map lnRef)) nl) (.tail _ (.tail _ hal))
    refine line_turn (z := z) (gn := gn) (tz := tz) (led := led ++ own) hP B1 F1 X1 T1 (News.sub N1 fun q hq => ?_) (List.mem_append_left _ hxo) hl1 ok ((if_neg (by decide)).trans ((hm1 _ (by decide) (by decide)).trans hlx)) (if_pos rfl) hxw hxn hdg (fun q hq => ?_) (by omega) hgz fun m' l' h' tk' a b e F2 N2 => ?_
    · rw [← List.append_assoc] at hq
      rcases List.mem_cons.mp hq with rfl | hq
      · exact List.mem_append_right _ (.head _)
      rcases List.mem_cons.mp hq with rfl | hq
      · exact List.mem_append_right _ (.tail _ (.head _))
      rcases List.mem_append.mp hq with hq | hq
      · exact List.mem_append_right _ (.tail _ (.tail _ hq))
      · exact List.mem_append_left _ hq
    · rcases List.mem_cons.mp hq with rfl | hq
      · exact off _ (.head _)
      rcases List.mem_cons.mp hq with rfl | hq
      · exact off _ (.tail _ (.head _))
      rcases List.mem_append.mp hq with hq | hq
      · exact off q (.tail _ (.tail _ hq))
      · exact oo q hq
    · have e9 : pws ++ (LS.take i).flatMap (lnPush z) ++ (x.ops.filter fun o => !decide (num o = z)) ++ [[]] = pws ++ (LS.take (i + 1)).flatMap (lnPush z) := by
        rw [List.take_add_one, hx, List.flatMap_append]
        simp [lnPush, List.append_assoc]
      have hfl := List.length_filter_le (fun o => !decide (num o = z)) x.ops
      have e8 := congrArg List.length e9
      rw [List.length_append, List.length_append, List.length_singleton] at e8
      rw [e9] at a
      refine hk h' tk' _ ((gl, listOf (gs ++ [Value.int z tz]).toArray gn) :: (L1 + 1 + 1 + 1 + 1, og) :: (l' ++ led)) F2 (News.sub N2 fun q hq => ?_) ?_ (.mk a (b.trans ha1) (by omega) fun y h1 h2 => (e y h1).trans ((if_neg h2).trans (hm1 y h1 h2)))
      · rw [← List.append_assoc]
        rcases List.mem_append.mp hq with hq | hq
        · exact .tail _ (.tail _ (List.mem_append_right _ hq))
        rcases List.mem_cons.mp hq with rfl | hq
        · exact .head _
        rcases List.mem_cons.mp hq with rfl | hq
        · exact .tail _ (.head _)
        · exact .tail _ (.tail _ (List.mem_append_left _ hq))
      · rw [List.map_cons, List.map_cons, List.map_cons, List.map_cons, List.map_append, List.map_append, b]
  · intro h' tk m1 nw F5 N5 hJ
    generalize hk5 : (LS.map lnRef).length = k5 at hJ
    cases hJ with
    | mk a b hz1 e =>
      rw [List.length_map] at hk5
      rw [List.take_of_length_le (by omega)] at a
      exact hret m1 _ h' tk a b e F5 N5
-- Y7
section
noncomputable def appOf : Option (Scope × List Stmt) := match roundOf with
  | some (sc, _ :: q :: _) => some (sc, [q])
  | _ => none
noncomputable def headComp : Option (Scope × Expr × Expr × Scope) := match appOf with
  | some (sc, Stmt.Expr (Expr.Call _ [Expr.Call _ [Expr.ListComp e [⟨_, _, [t], _⟩] csc _] _ _] _ _) _ :: _) => some (sc, t, e, csc)
  | _ => none
set_option maxHeartbeats 8000000 in
theorem head_test {w : World} {A₀ : Around} {base g : Heap} {L1 fa : Addr} {cd : Value} {mg mb : Str → Option Value} {s : Shared} {E : Value → Shared → Prop} {p : Program} {loose : List Str} {mean : ExcName → Option Value} {nm : Str} {sc : Scope} {Q : Bool → Shared → Prop} {csc : Scope} {e t : Expr} {C al : Addr} {oC : Obj} {m m2 : Str → Option Value} {v : Value} {us : List Value} {n : Nat} {led : List (Addr × Obj)}
    (hP : headComp = some (sc, t, e, csc)) (B1 : Below A₀ base [] g) (F0 : Fr g L1 s.heap m) (X1 : (Mine.KL w.params).In g)
    (N0 : News g L1 s.heap ((C, oC) :: (al, listOf (v :: us).toArray n) :: led)) (T1 : Top p loose mean mg mb g) (hC : LCg.NsObj oC m2) (hx : m2 (Str.ofString "line") = some (.ref al)) (hu : us.length ≤ 10)
    (hret : ∀ h' tk', Fr g L1 h' m → News g L1 h' ((C, oC) :: (al, listOf (v :: us).toArray n) :: led) → Q true { s with heap := h', toks := tk' }) :
    wpAny (model PySem.Challenge.rw_st0010_01.row.prog w) (callerA.deeper (envOfC nm sc L1 fa cd)) (isTrue t (compEnvC csc [] C (envOfC nm sc L1 fa cd)) (eval t (compEnvC csc [] C (envOfC nm sc L1 fa cd)))) Q E s := by
  obtain ⟨h0, g0, r0, k0, o0⟩ := s
  dsimp only at F0 N0 hret ⊢
  conv at hP => lhs; whnf
  injection hP with hP
  injection hP with hP1 hP2
  injection hP2 with hP2 hP3
  injection hP3 with hP3 hP4
  subst hP1 hP2 hP3 hP4
  revert X1; k_fill; intro X1
  repeat' ((fail_if_success (with_reducible show wpAny _ _ (newList _) _ _ _)); (fail_if_success (with_reducible show wpAny _ _ (compareOp _ _ _) _ _ _)); (fail_if_success (with_reducible show ∃ _, _)); (fail_if_success (with_reducible show LeaveK h₀ _ _ _ _ _ _)); (fail_if_success (with_reducible show wpAny _ _ (call (Value.ref 94) _) _ _ _)); (fail_if_success (with_reducible show wpAny _ _ (call (Value.ref 101) _) _ _ _)); (fail_if_success (with_reducible show wpAny _ _ (call (Value.ref 106) _) _ _ _)); (fail_if_success (with_reducible show wpAny _ _ (call (Value.ref 87) _) _ _ _)); (fail_if_success (with_reducible show wpAny _ _ (call (Value.ref 113) _) _ _ _)); (fail_if_success (with_reducible show wpAny _ _ (call (Value.ref 118) _) _ _ _)); (fail_if_success (with_reducible show wpAny _ _ (call (Value.ref 56) _) _ _ _)); first | (k_unfold; (try dsimp only)) | (k_end; wrow_close) | (first | (with_reducible ((k_here; (with_reducible show wpAny _ _ (subscriptTail _ _ (Value.ref _) (Value.int (-1) _)) _ _ _); k_dflt (refine' last_item ?N ?hm ?hz ?_; (case N => k_asm); (case hm => k_mem); (case hz => assumption))))) | (with_reducible ((k_here; (with_reducible show wpAny _ _ (subscriptTail _ _ (Value.ref 64) (Value.str _ _)) _ _ _); k_dflt (refine' ett_item ?F ?X ?hx ?_; (case F => k_asm); (case X => k_asm); (case hx => assumption)); intro _))) | walk1) | (dsimp only; (first | (with_reducible ((k_here; (with_reducible show wpAny _ _ (subscriptTail _ _ (Value.ref _) (Value.int (-1) _)) _ _ _); k_dflt (refine' last_item ?N ?hm ?hz ?_; (case N => k_asm); (case hm => k_mem); (case hz => assumption))))) | (with_reducible ((k_here; (with_reducible show wpAny _ _ (subscriptTail _ _ (Value.ref 64) (Value.str _ _)) _ _ _); k_dflt (refine' ett_item ?F ?X ?hx ?_; (case F => k_asm); (case X => k_asm); (case hx => assumption)); intro _))) | walk1)) | (leave1; walk_say "STEP leave1"; try dsimp only) | fail "no step")
  refine newList_K2 F0 N0 (fun l' h' F' N' l1 l2 => ?_) (by size_fits)
  refine (SeqAt.RcNeAt.lists_lengths (items := (v :: us).toArray) (items2 := #[]) ⟨_, (N' (al, listOf (v :: us).toArray n) (.tail _ (.tail _ (.head _)))).1, rfl, n, rfl⟩ ⟨_, (N' (l', listOf #[] 0) (.head _)).1, rfl, 0, rfl⟩ (by simp) (by first | units_room | exact Nat.le_of_ble_eq_true rfl)) _ _ _ _ ?_
  have NR : News g L1 h' ((C, oC) :: (al, listOf (v :: us).toArray n) :: led) := News.sub N' fun p hp => .tail _ hp
  clear N0 F0 N'
  repeat' ((fail_if_success (with_reducible show wpAny _ _ (newList _) _ _ _)); (fail_if_success (with_reducible show wpAny _ _ (compareOp _ _ _) _ _ _)); (fail_if_success (with_reducible show ∃ _, _)); (fail_if_success (with_reducible show LeaveK h₀ _ _ _ _ _ _)); (fail_if_success (with_reducible show wpAny _ _ (call (Value.ref 94) _) _ _ _)); (fail_if_success (with_reducible show wpAny _ _ (call (Value.ref 101) _) _ _ _)); (fail_if_success (with_reducible show wpAny _ _ (call (Value.ref 106) _) _ _ _)); (fail_if_success (with_reducible show wpAny _ _ (call (Value.ref 87) _) _ _ _)); (fail_if_success (with_reducible show wpAny _ _ (call (Value.ref 113) _) _ _ _)); (fail_if_success (with_reducible show wpAny _ _ (call (Value.ref 118) _) _ _ _)); (fail_if_success (with_reducible show wpAny _ _ (call (Value.ref 56) _) _ _ _)); first | (k_unfold; (try dsimp only)) | (k_end; wrow_close) | (first | (with_reducible ((k_here; (with_reducible show wpAny _ _ (subscriptTail _ _ (Value.ref _) (Value.int (-1) _)) _ _ _); k_dflt (refine' last_item ?N ?hm ?hz ?_; (case N => k_asm); (case hm => k_mem); (case hz => assumption))))) | (with_reducible ((k_here; (with_reducible show wpAny _ _ (subscriptTail _ _ (Value.ref 64) (Value.str _ _)) _ _ _); k_dflt (refine' ett_item ?F ?X ?hx ?_; (case F => k_asm); (case X => k_asm); (case hx => assumption)); intro _))) | walk1) | (dsimp only; (first | (with_reducible ((k_here; (with_reducible show wpAny _ _ (subscriptTail _ _ (Value.ref _) (Value.int (-1) _)) _ _ _); k_dflt (refine' last_item ?N ?hm ?hz ?_; (case N => k_asm); (case hm => k_mem); (case hz => assumption))))) | (with_reducible ((k_here; (with_reducible show wpAny _ _ (subscriptTail _ _ (Value.ref 64) (Value.str _ _)) _ _ _); k_dflt (refine' ett_item ?F ?X ?hx ?_; (case F => k_asm); (case X => k_asm); (case hx => assumption)); intro _))) | walk1)) | (leave1; walk_say "STEP leave1"; try dsimp only) | fail "no step")
  exact hret _ _ F' NR
section
variable {prog : Program} {w : World} {A : Around} {E : Value → Shared → Prop} {s : Shared} {h₀ : Heap} {L l : Addr} {m : Str → Option Value} {news : List (Addr × Obj)}
theorem first_item {value slice : Expr} {xs : List Value} {v : Value} {u : Tok} {n : Nat} {Q : Value → Shared → Prop} (N : News h₀ L s.heap news) (hm : (l, listOf (v :: xs).toArray n) ∈ news) (h : Q v s)
    (hs : subscripted slice false (.ref l) (.int 0 u) = operate [.ref l, .int 0 u] (getItem (.ref l) (.int 0 u)) := by with_unfolding_all rfl) (hg : ∀ r, letTemporaryGo value (.ref l) r = pure () := by intro _; with_unfolding_all rfl) :
    wpAny (model prog w) A (subscriptTail value slice (.ref l) (.int 0 u)) Q E s :=
  item_list (k := 0) (items := (v :: xs).toArray) ⟨_, (N _ hm).1, rfl, n, rfl⟩ (by decide) (by decide) (by simp) h hs hg
end
set_option maxHeartbeats 8000000 in
theorem head_elt {w : World} {A₀ : Around} {base g : Heap} {L1 fa : Addr} {cd : Value} {mg mb : Str → Option Value} {s : Shared} {E : Value → Shared → Prop} {p : Program} {loose : List Str} {mean : ExcName → Option Value} {nm : Str} {sc : Scope} {Q : Value → Shared → Prop} {csc : Scope} {e t : Expr} {C al : Addr} {oC : Obj} {m m2 : Str → Option Value} {c : List Nat} {tc : Tok} {us : List Value} {n : Nat} {led : List (Addr × Obj)}
    (hP : headComp = some (sc, t, e, csc)) (B1 : Below A₀ base [] g) (F0 : Fr g L1 s.heap m) (X1 : (Mine.KL w.params).In g)
    (N0 : News g L1 s.heap ((C, oC) :: (al, listOf (Value.str ⟨c.toArray⟩ tc :: us).toArray n) :: led)) (T1 : Top p loose mean mg mb g) (hC : LCg.NsObj oC m2) (hx : m2 (Str.ofString "line") = some (.ref al)) (hu : us.length ≤ 10) (hn : num c ≠ 0)
    (hret : ∀ tk u, Q (.int (num c) u) { s with toks := tk }) :
    wpAny (model PySem.Challenge.rw_st0010_01.row.prog w) (callerA.deeper (envOfC nm sc L1 fa cd)) (eval e (compEnvC csc [] C (envOfC nm sc L1 fa cd))) Q E s := by
  obtain ⟨h0, g0, r0, k0, o0⟩ := s
  dsimp only at F0 N0 hret ⊢
  conv at hP => lhs; whnf
  injection hP with hP
  injection hP with hP1 hP2
  injection hP2 with hP2 hP3
  injection hP3 with hP3 hP4
  subst hP1 hP2 hP3 hP4
  revert X1; k_fill; intro X1
  repeat' ((fail_if_success (with_reducible show wpAny _ _ (newList _) _ _ _)); (fail_if_success (with_reducible show wpAny _ _ (compareOp _ _ _) _ _ _)); (fail_if_success (with_reducible show ∃ _, _)); (fail_if_success (with_reducible show LeaveK h₀ _ _ _ _ _ _)); (fail_if_success (with_reducible show wpAny _ _ (call (Value.ref 94) _) _ _ _)); (fail_if_success (with_reducible show wpAny _ _ (call (Value.ref 101) _) _ _ _)); (fail_if_success (with_reducible show wpAny _ _ (call (Value.ref 106) _) _ _ _)); (fail_if_success (with_reducible show wpAny _ _ (call (Value.ref 87) _) _ _ _)); (fail_if_success (with_reducible show wpAny _ _ (call (Value.ref 113) _) _ _ _)); (fail_if_success (with_reducible show wpAny _ _ (call (Value.ref 118) _) _ _ _)); (fail_if_success (with_reducible show wpAny _ _ (call (Value.ref 56) _) _ _ _)); first | (k_unfold; (try dsimp only)) | (k_end; wrow_close) | (first | (with_reducible ((k_here; (with_reducible show wpAny _ _ (subscriptTail _ _ (Value.ref _) (Value.int 0 _)) _ _ _); k_dflt (refine' first_item ?N ?hm ?_; (case N => k_asm); (case hm => k_mem))))) | (with_reducible ((k_here; (with_reducible show wpAny _ _ (subscriptTail _ _ (Value.ref _) (Value.int (-1) _)) _ _ _); k_dflt (refine' last_item ?N ?hm ?hz ?_; (case N => k_asm); (case hm => k_mem); (case hz => assumption))))) | (with_reducible ((k_here; (with_reducible show wpAny _ _ (subscriptTail _ _ (Value.ref 64) (Value.str _ _)) _ _ _); k_dflt (refine' ett_item ?F ?X ?hx ?_; (case F => k_asm); (case X => k_asm); (case hx => assumption)); intro _))) | walk1) | (dsimp only; (first | (with_reducible ((k_here; (with_reducible show wpAny _ _ (subscriptTail _ _ (Value.ref _) (Value.int 0 _)) _ _ _); k_dflt (refine' first_item ?N ?hm ?_; (case N => k_asm); (case hm => k_mem))))) | (with_reducible ((k_here; (with_reducible show wpAny _ _ (subscriptTail _ _ (Value.ref _) (Value.int (-1) _)) _ _ _); k_dflt (refine' last_item ?N ?hm ?hz ?_; (case N => k_asm); (case hm => k_mem); (case hz => assumption))))) | (with_reducible ((k_here; (with_reducible show wpAny _ _ (subscriptTail _ _ (Value.ref 64) (Value.str _ _)) _ _ _); k_dflt (refine' ett_item ?F ?X ?hx ?_; (case F => k_asm); (case X => k_asm); (case hx => assumption)); intro _))) | walk1)) | (leave1; walk_say "STEP leave1"; try dsimp only) | fail "no step")
  exact hret _ _
noncomputable def appSt : Option (Scope × Stmt) := match appOf with
  | some (sc, q :: _) => some (sc, q)
  | _ => none
noncomputable def LnHd (x : Ln) : Prop := ∃ c rr, x.ops = c :: rr ∧ rr.length ≤ 10 ∧ num c ≠ 0 ∧ Words x.us x.ops
noncomputable def hdNum (x : Ln) : Int := num (x.ops.headD [])
theorem IntsAre.snoc1 {vs : List Value} {ns : List Int} {k : Int} {t : Tok} (h : IntsAre vs ns) : IntsAre (vs ++ [.int k t]) (ns ++ [k]) := h.append (.cons _ _ .nil)
set_option maxHeartbeats 8000000 in
theorem heads_rest {w : World} {A₀ : Around} {base g : Heap} {L1 fa : Addr} {cd : Value} {mg mb : Str → Option Value} {s : Shared} {p : Program} {loose : List Str} {mean : ExcName → Option Value} {nm : Str} {sc csc : Scope} {t e : Expr} {m : Str → Option Value} {S : List (Addr × Obj) → Prop} {news : List (Addr × Obj)} {FS : List Ln} {Fin : List Value → List (Addr × Obj) → Prop}
    (hP : headComp = some (sc, t, e, csc)) (B1 : Below A₀ base [] g) (X1 : (Mine.KL w.params).In g) (T1 : Top p loose mean mg mb g) (hS : S news) (hm : ∀ x ∈ FS, lnObj x ∈ news) (hh : ∀ x ∈ FS, LnHd x)
    (fin : ∀ ys, IntsAre ys (FS.map hdNum) → Fin ys news) :
    ∀ k i ys, k + i = FS.length → IntsAre ys ((FS.take i).map hdNum) → LCt.CompRestT PySem.Challenge.rw_st0010_01.row.prog w (callerA.deeper (envOfC nm sc L1 fa cd)) g L1 m (envOfC nm sc L1 fa cd) t e (Str.ofString "line") csc [] s S (fun i v => (List.toArray (FS.map lnRef))[i]? = some v) Fin k i ys news
  | 0, i, ys, hk, hy => fin ys (by rw [List.take_of_length_le (by omega)] at hy; exact hy)
  | k + 1, i, ys, hk, hy => by
    refine LCt.CompRestT.succ ?_
    intro v I oI C oC D m₂ h tk E' hv hC hx F N off ne
    have hv2 : (FS.map lnRef)[i]? = some v := by simpa using hv
    rw [List.getElem?_map] at hv2
    obtain ⟨x, hxi, rfl⟩ := Option.map_eq_some_iff.mp hv2
    have hxm : x ∈ FS := List.mem_of_getElem? hxi
    obtain ⟨c, rr, hops, hrl, hcn, hw⟩ := hh x hxm
    have hnum : hdNum x = num c := by unfold hdNum; rw [hops]; rfl
    have hxn := hm x hxm
    obtain ⟨xa, xus, xn, xops⟩ := x
    dsimp only at hops hw hnum
    subst hops
    cases hw with
    | cons e1 hw =>
      rename_i vv us tc
      subst e1
      have hul := hw.length
      refine head_test (csc := csc) (led := (I, oI) :: (D, LCg.lst ys) :: news) (n := xn) hP B1 F X1 (News.sub N (by
        intro q hq
        simp only [List.mem_cons] at hq ⊢
        rcases hq with hq | rfl | hq | hq | hq
        · exact .inr (.inl hq)
        · exact .inr (.inr (.inr hxn))
        · exact .inl hq
        · exact .inr (.inr (.inl hq))
        · exact .inr (.inr (.inr hq)))) T1 hC hx (by omega) fun h' tk' F' N' => ?_
      simp only [if_true]
      refine head_elt (csc := csc) (n := xn) (tc := tc) (us := us) hP B1 F' X1 N' T1 hC hx (by omega) hcn fun tk2 u => ?_
      refine LCg.CompEnd.intro F' N' news (by
        intro q hq
        simp only [List.mem_cons] at hq ⊢
        rcases hq with hq | hq | hq | hq
        · exact .inr (.inr (.inl hq))
        · exact .inl hq
        · exact .inr (.inr (.inr (.inl hq)))
        · exact .inr (.inr (.inr (.inr hq)))) off hS ?_
      refine heads_rest hP B1 X1 T1 hS hm hh fin k (i + 1) _ (by omega) ?_
      rw [List.take_add_one, hxi, List.map_append]
      have := IntsAre.snoc1 (k := num c) (t := u) hy
      simpa [hdNum] using this
theorem ints5 {ys : List Value} {k0 k1 k2 k3 k4 : Int} (h : IntsAre ys [k0, k1, k2, k3, k4]) : ∃ t0 t1 t2 t3 t4, ys = [.int k0 t0, .int k1 t1, .int k2 t2, .int k3 t3, .int k4 t4] := by
  cases h with
  | cons _ t0 h => cases h with
    | cons _ t1 h => cases h with
      | cons _ t2 h => cases h with
        | cons _ t3 h => cases h with
          | cons _ t4 h => cases h with
            | nil => exact ⟨t0, t1, t2, t3, t4, rfl⟩
set_option maxHeartbeats 8000000 in
theorem mid_stmt {w : World} {A₀ : Around} {base g : Heap} {L1 fa : Addr} {cd : Value} {mg mb : Str → Option Value} {s : Shared} {Q : Flow → Shared → Prop} {E : Value → Shared → Prop} {p : Program} {loose : List Str} {mean : ExcName → Option Value} {nm : Str} {sc : Scope} {S : Stmt} {gl lls : Addr} {gs : List Value} {gn nl : Nat} {z : Int} {og : Obj} {led : List (Addr × Obj)} {m : Str → Option Value} {FS : List Ln} {k0 k1 k2 k3 k4 : Int}
    (hP : appSt = some (sc, S)) (B1 : Below A₀ base [] g)
    (F0 : Fr g L1 s.heap m) (X1 : (Mine.KL w.params).In g)
    (N0 : News g L1 s.heap ((gl, listOf gs.toArray gn) :: (L1 + 1 + 1 + 1 + 1, og) :: led)) (T1 : Top p loose mean mg mb g) (hll : (lls, listOf (List.toArray (FS.map lnRef)) nl) ∈ led) (hfs : ∀ x ∈ FS, lnObj x ∈ led) (hh : ∀ x ∈ FS, LnHd x) (hk : FS.map hdNum = [k0, k1, k2, k3, k4])
    (hls : m (Str.ofString "lines") = some (.ref lls)) (hdg : og.data = .cell (some (.ref gl))) (hgled : ∀ q ∈ led, q.1 ≠ gl) (hgc : (L1 + 1 + 1 + 1 + 1 : Addr) ≠ gl) (hgz : gs.length ≤ 100)
    (hmax : MaxIs (pick (fun v => loC v [k0, k1, k2, k3, k4]) [k0, k1, k2, k3, k4]) z) (hmin : MinIs (pick (fun v => upC v [k0, k1, k2, k3, k4]) [k0, k1, k2, k3, k4]) z)
    (hret : ∀ t gn' h' tk', Fr g L1 h' m → News g L1 h' ((gl, listOf (gs ++ [Value.int z t]).toArray gn') :: (L1 + 1 + 1 + 1 + 1, og) :: led) → Q .next { s with heap := h', toks := tk' }) :
    wpAny (model PySem.Challenge.rw_st0010_01.row.prog w) (callerA.deeper (envOfC nm sc L1 fa cd)) (exec S (envOfC nm sc L1 fa cd)) Q E s := by
  have hl5 : FS.length = 5 := by
    have := congrArg List.length hk
    simpa using this
  obtain ⟨h0, g0, r9, os0, tk0⟩ := s
  dsimp only at F0 N0 hret ⊢
  conv at hP => lhs; whnf
  injection hP with hP
  injection hP with hP1 hP2
  subst hP1 hP2
  revert X1; k_fill; intro X1
  repeat' ((fail_if_success (with_reducible show wpAny _ _ (eval (Expr.ListComp _ _ _ _) _) _ _ _)); (fail_if_success (with_reducible show wpAny _ _ (call (Value.builtin _) [Value.ref _, Value.int _ _]) _ _ _)); (fail_if_success (with_reducible show ∃ _, _)); (fail_if_success (with_reducible show LeaveK h₀ _ _ _ _ _ _)); (fail_if_success (with_reducible show wpAny _ _ (call (Value.ref 94) _) _ _ _)); (fail_if_success (with_reducible show wpAny _ _ (call (Value.ref 101) _) _ _ _)); (fail_if_success (with_reducible show wpAny _ _ (call (Value.ref 106) _) _ _ _)); (fail_if_success (with_reducible show wpAny _ _ (call (Value.ref 87) _) _ _ _)); (fail_if_success (with_reducible show wpAny _ _ (call (Value.ref 113) _) _ _ _)); (fail_if_success (with_reducible show wpAny _ _ (call (Value.ref 118) _) _ _ _)); (fail_if_success (with_reducible show wpAny _ _ (call (Value.ref 56) _) _ _ _)); first | (k_unfold; (try dsimp only)) | (k_end; wrow_close) | (first | ((with_reducible show wpAny _ _ (eval (PySem.Expr.Name _ _) _) _ _ _); with_reducible ((k_here; k_dflt (refine' nameX_L ?F ?v ?_ ?a ?b; (case F => k_asm); (case a => rfl); (case b => rfl); (case v => with_reducible assumption); k_whole)))) | (with_reducible ((k_here; (with_reducible show wpAny _ _ (subscriptTail _ _ (Value.ref _) (Value.int 0 _)) _ _ _); k_dflt (refine' first_item ?N ?hm ?_; (case N => k_asm); (case hm => k_mem))))) | (with_reducible ((k_here; (with_reducible show wpAny _ _ (subscriptTail _ _ (Value.ref _) (Value.int (-1) _)) _ _ _); k_dflt (refine' last_item ?N ?hm ?hz ?_; (case N => k_asm); (case hm => k_mem); (case hz => assumption))))) | (with_reducible ((k_here; (with_reducible show wpAny _ _ (subscriptTail _ _ (Value.ref 64) (Value.str _ _)) _ _ _); k_dflt (refine' ett_item ?F ?X ?hx ?_; (case F => k_asm); (case X => k_asm); (case hx => assumption)); intro _))) | walk1) | (dsimp only; (first | ((with_reducible show wpAny _ _ (eval (PySem.Expr.Name _ _) _) _ _ _); with_reducible ((k_here; k_dflt (refine' nameX_L ?F ?v ?_ ?a ?b; (case F => k_asm); (case a => rfl); (case b => rfl); (case v => with_reducible assumption); k_whole)))) | (with_reducible ((k_here; (with_reducible show wpAny _ _ (subscriptTail _ _ (Value.ref _) (Value.int 0 _)) _ _ _); k_dflt (refine' first_item ?N ?hm ?_; (case N => k_asm); (case hm => k_mem))))) | (with_reducible ((k_here; (with_reducible show wpAny _ _ (subscriptTail _ _ (Value.ref _) (Value.int (-1) _)) _ _ _); k_dflt (refine' last_item ?N ?hm ?hz ?_; (case N => k_asm); (case hm => k_mem); (case hz => assumption))))) | (with_reducible ((k_here; (with_reducible show wpAny _ _ (subscriptTail _ _ (Value.ref 64) (Value.str _ _)) _ _ _); k_dflt (refine' ett_item ?F ?X ?hx ?_; (case F => k_asm); (case X => k_asm); (case hx => assumption)); intro _))) | walk1)) | (leave1; walk_say "STEP leave1"; try dsimp only) | fail "no step")
  refine LCt.ListComp_T (F₀ := F0) (by with_unfolding_all rfl) (by decide) (by rfl) (by decide) (by rfl) ?_
  (first | ((with_reducible show wpAny _ _ (eval (PySem.Expr.Name _ _) _) _ _ _); with_reducible ((k_here; k_dflt (refine' nameX_L ?F ?v ?_ ?a ?b; (case F => k_asm); (case a => rfl); (case b => rfl); (case v => with_reducible assumption); k_whole)))) | (with_reducible ((k_here; (with_reducible show wpAny _ _ (subscriptTail _ _ (Value.ref _) (Value.int 0 _)) _ _ _); k_dflt (refine' first_item ?N ?hm ?_; (case N => k_asm); (case hm => k_mem))))) | (with_reducible ((k_here; (with_reducible show wpAny _ _ (subscriptTail _ _ (Value.ref _) (Value.int (-1) _)) _ _ _); k_dflt (refine' last_item ?N ?hm ?hz ?_; (case N => k_asm); (case hm => k_mem); (case hz => assumption))))) | (with_reducible ((k_here; (with_reducible show wpAny _ _ (subscriptTail _ _ (Value.ref 64) (Value.str _ _)) _ _ _); k_dflt (refine' ett_item ?F ?X ?hx ?_; (case F => k_asm); (case X => k_asm); (case hx => assumption)); intro _))) | walk1)
  refine LCt.CompSrcT.ledger (by rfl) F0 N0 (.tail _ (.tail _ hll)) (by rw [List.size_toArray, List.length_map, hl5]; size_fits) (fun g9 => ?_)
  have e5 : (List.toArray (FS.map lnRef)).size = 5 := by rw [List.size_toArray, List.length_map, hl5]
  rw [e5]
  refine heads_rest (FS := FS) rfl B1 X1 T1 (.inr ⟨_, .tail _ (.tail _ hll), rfl, nl, rfl⟩) (fun x hx => .tail _ (.tail _ (hfs x hx))) hh (fun ys hy => ?_) 5 0 [] (by omega) .nil
  rw [hk] at hy
  obtain ⟨t0, t1, t2, t3, t4, rfl⟩ := ints5 hy
  intro D hD tkD FD ND oD
  clear F0 N0
  dsimp only
  repeat' ((fail_if_success (with_reducible show wpAny _ _ (eval (Expr.ListComp _ _ _ _) _) _ _ _)); (fail_if_success (with_reducible show wpAny _ _ (call (Value.builtin _) [Value.ref _, Value.int _ _]) _ _ _)); (fail_if_success (with_reducible show ∃ _, _)); (fail_if_success (with_reducible show LeaveK h₀ _ _ _ _ _ _)); (fail_if_success (with_reducible show wpAny _ _ (call (Value.ref 94) _) _ _ _)); (fail_if_success (with_reducible show wpAny _ _ (call (Value.ref 101) _) _ _ _)); (fail_if_success (with_reducible show wpAny _ _ (call (Value.ref 106) _) _ _ _)); (fail_if_success (with_reducible show wpAny _ _ (call (Value.ref 87) _) _ _ _)); (fail_if_success (with_reducible show wpAny _ _ (call (Value.ref 113) _) _ _ _)); (fail_if_success (with_reducible show wpAny _ _ (call (Value.ref 118) _) _ _ _)); (fail_if_success (with_reducible show wpAny _ _ (call (Value.ref 56) _) _ _ _)); first | (k_unfold; (try dsimp only)) | (k_end; wrow_close) | (first | ((with_reducible show wpAny _ _ (eval (PySem.Expr.Name _ _) _) _ _ _); with_reducible ((k_here; k_dflt (refine' nameX_L ?F ?v ?_ ?a ?b; (case F => k_asm); (case a => rfl); (case b => rfl); (case v => with_reducible assumption); k_whole)))) | (with_reducible ((k_here; (with_reducible show wpAny _ _ (subscriptTail _ _ (Value.ref _) (Value.int 0 _)) _ _ _); k_dflt (refine' first_item ?N ?hm ?_; (case N => k_asm); (case hm => k_mem))))) | (with_reducible ((k_here; (with_reducible show wpAny _ _ (subscriptTail _ _ (Value.ref _) (Value.int (-1) _)) _ _ _); k_dflt (refine' last_item ?N ?hm ?hz ?_; (case N => k_asm); (case hm => k_mem); (case hz => assumption))))) | (with_reducible ((k_here; (with_reducible show wpAny _ _ (subscriptTail _ _ (Value.ref 64) (Value.str _ _)) _ _ _); k_dflt (refine' ett_item ?F ?X ?hx ?_; (case F => k_asm); (case X => k_asm); (case hx => assumption)); intro _))) | walk1) | (dsimp only; (first | ((with_reducible show wpAny _ _ (eval (PySem.Expr.Name _ _) _) _ _ _); with_reducible ((k_here; k_dflt (refine' nameX_L ?F ?v ?_ ?a ?b; (case F => k_asm); (case a => rfl); (case b => rfl); (case v => with_reducible assumption); k_whole)))) | (with_reducible ((k_here; (with_reducible show wpAny _ _ (subscriptTail _ _ (Value.ref _) (Value.int 0 _)) _ _ _); k_dflt (refine' first_item ?N ?hm ?_; (case N => k_asm); (case hm => k_mem))))) | (with_reducible ((k_here; (with_reducible show wpAny _ _ (subscriptTail _ _ (Value.ref _) (Value.int (-1) _)) _ _ _); k_dflt (refine' last_item ?N ?hm ?hz ?_; (case N => k_asm); (case hm => k_mem); (case hz => assumption))))) | (with_reducible ((k_here; (with_reducible show wpAny _ _ (subscriptTail _ _ (Value.ref 64) (Value.str _ _)) _ _ _); k_dflt (refine' ett_item ?F ?X ?hx ?_; (case F => k_asm); (case X => k_asm); (case hx => assumption)); intro _))) | walk1)) | (leave1; walk_say "STEP leave1"; try dsimp only) | fail "no step")
  (refine' wpAny_le (A' := ktrTop 500 500 callerA.guards nm ?csm L1 fa cd ?clm []) ?hhm ?a1m ?a2m ?a3m ?a4m ?a5m; (case a3m => exact rfl); (case a1m => exact rfl); (case a2m => exact Nat.le_of_ble_eq_true rfl); (case a4m => exact rfl); (case a5m => exact Nat.le_of_ble_eq_true rfl))
  refine spec_middle (l := D) (n := 5) B1 FD X1 (News.sub ND (mem_one (.head _))) T1 rfl hmax hmin (fun tz h' tk' FA NA KA => ?_)
  have NR := keeps_but KA (News.sub ND (mem_one (.head _))) NA (News.sub ND fun p hp => .tail _ hp) fun p hp => .inl hp
  have oD' : (L1 + 1 + 1 + 1 + 1 : Addr) ≠ D := oD.2.1
  clear FD ND NA KA
  dsimp only
  repeat' ((fail_if_success (with_reducible show wpAny _ _ (eval (Expr.ListComp _ _ _ _) _) _ _ _)); (fail_if_success (with_reducible show wpAny _ _ (call (Value.builtin _) [Value.ref _, Value.int _ _]) _ _ _)); (fail_if_success (with_reducible show ∃ _, _)); (fail_if_success (with_reducible show LeaveK h₀ _ _ _ _ _ _)); (fail_if_success (with_reducible show wpAny _ _ (call (Value.ref 94) _) _ _ _)); (fail_if_success (with_reducible show wpAny _ _ (call (Value.ref 101) _) _ _ _)); (fail_if_success (with_reducible show wpAny _ _ (call (Value.ref 106) _) _ _ _)); (fail_if_success (with_reducible show wpAny _ _ (call (Value.ref 87) _) _ _ _)); (fail_if_success (with_reducible show wpAny _ _ (call (Value.ref 113) _) _ _ _)); (fail_if_success (with_reducible show wpAny _ _ (call (Value.ref 118) _) _ _ _)); (fail_if_success (with_reducible show wpAny _ _ (call (Value.ref 56) _) _ _ _)); first | (k_unfold; (try dsimp only)) | (k_end; wrow_close) | (first | ((with_reducible show wpAny _ _ (eval (PySem.Expr.Name _ _) _) _ _ _); with_reducible ((k_here; k_dflt (refine' nameX_L ?F ?v ?_ ?a ?b; (case F => k_asm); (case a => rfl); (case b => rfl); (case v => with_reducible assumption); k_whole)))) | (with_reducible ((k_here; (with_reducible show wpAny _ _ (subscriptTail _ _ (Value.ref _) (Value.int 0 _)) _ _ _); k_dflt (refine' first_item ?N ?hm ?_; (case N => k_asm); (case hm => k_mem))))) | (with_reducible ((k_here; (with_reducible show wpAny _ _ (subscriptTail _ _ (Value.ref _) (Value.int (-1) _)) _ _ _); k_dflt (refine' last_item ?N ?hm ?hz ?_; (case N => k_asm); (case hm => k_mem); (case hz => assumption))))) | (with_reducible ((k_here; (with_reducible show wpAny _ _ (subscriptTail _ _ (Value.ref 64) (Value.str _ _)) _ _ _); k_dflt (refine' ett_item ?F ?X ?hx ?_; (case F => k_asm); (case X => k_asm); (case hx => assumption)); intro _))) | walk1) | (dsimp only; (first | ((with_reducible show wpAny _ _ (eval (PySem.Expr.Name _ _) _) _ _ _); with_reducible ((k_here; k_dflt (refine' nameX_L ?F ?v ?_ ?a ?b; (case F => k_asm); (case a => rfl); (case b => rfl); (case v => with_reducible assumption); k_whole)))) | (with_reducible ((k_here; (with_reducible show wpAny _ _ (subscriptTail _ _ (Value.ref _) (Value.int 0 _)) _ _ _); k_dflt (refine' first_item ?N ?hm ?_; (case N => k_asm); (case hm => k_mem))))) | (with_reducible ((k_here; (with_reducible show wpAny _ _ (subscriptTail _ _ (Value.ref _) (Value.int (-1) _)) _ _ _); k_dflt (refine' last_item ?N ?hm ?hz ?_; (case N => k_asm); (case hm => k_mem); (case hz => assumption))))) | (with_reducible ((k_here; (with_reducible show wpAny _ _ (subscriptTail _ _ (Value.ref 64) (Value.str _ _)) _ _ _); k_dflt (refine' ett_item ?F ?X ?hx ?_; (case F => k_asm); (case X => k_asm); (case hx => assumption)); intro _))) | walk1)) | (leave1; walk_say "STEP leave1"; try dsimp only) | fail "no step")
  refine append_K FA NR (Upd.head (by
    intro q hq
    rcases List.mem_cons.mp hq with rfl | hq
    · exact hgc
    · exact hgled q hq)) (fun h2 F2 N2 => ?_) (by rw [sizeLine_eq]; simp; omega)
  clear FA NR
  dsimp only
  repeat' ((fail_if_success (with_reducible show wpAny _ _ (eval (Expr.ListComp _ _ _ _) _) _ _ _)); (fail_if_success (with_reducible show wpAny _ _ (call (Value.builtin _) [Value.ref _, Value.int _ _]) _ _ _)); (fail_if_success (with_reducible show ∃ _, _)); (fail_if_success (with_reducible show LeaveK h₀ _ _ _ _ _ _)); (fail_if_success (with_reducible show wpAny _ _ (call (Value.ref 94) _) _ _ _)); (fail_if_success (with_reducible show wpAny _ _ (call (Value.ref 101) _) _ _ _)); (fail_if_success (with_reducible show wpAny _ _ (call (Value.ref 106) _) _ _ _)); (fail_if_success (with_reducible show wpAny _ _ (call (Value.ref 87) _) _ _ _)); (fail_if_success (with_reducible show wpAny _ _ (call (Value.ref 113) _) _ _ _)); (fail_if_success (with_reducible show wpAny _ _ (call (Value.ref 118) _) _ _ _)); (fail_if_success (with_reducible show wpAny _ _ (call (Value.ref 56) _) _ _ _)); first | (k_unfold; (try dsimp only)) | (k_end; wrow_close) | (first | ((with_reducible show wpAny _ _ (eval (PySem.Expr.Name _ _) _) _ _ _); with_reducible ((k_here; k_dflt (refine' nameX_L ?F ?v ?_ ?a ?b; (case F => k_asm); (case a => rfl); (case b => rfl); (case v => with_reducible assumption); k_whole)))) | (with_reducible ((k_here; (with_reducible show wpAny _ _ (subscriptTail _ _ (Value.ref _) (Value.int 0 _)) _ _ _); k_dflt (refine' first_item ?N ?hm ?_; (case N => k_asm); (case hm => k_mem))))) | (with_reducible ((k_here; (with_reducible show wpAny _ _ (subscriptTail _ _ (Value.ref _) (Value.int (-1) _)) _ _ _); k_dflt (refine' last_item ?N ?hm ?hz ?_; (case N => k_asm); (case hm => k_mem); (case hz => assumption))))) | (with_reducible ((k_here; (with_reducible show wpAny _ _ (subscriptTail _ _ (Value.ref 64) (Value.str _ _)) _ _ _); k_dflt (refine' ett_item ?F ?X ?hx ?_; (case F => k_asm); (case X => k_asm); (case hx => assumption)); intro _))) | walk1) | (dsimp only; (first | ((with_reducible show wpAny _ _ (eval (PySem.Expr.Name _ _) _) _ _ _); with_reducible ((k_here; k_dflt (refine' nameX_L ?F ?v ?_ ?a ?b; (case F => k_asm); (case a => rfl); (case b => rfl); (case v => with_reducible assumption); k_whole)))) | (with_reducible ((k_here; (with_reducible show wpAny _ _ (subscriptTail _ _ (Value.ref _) (Value.int 0 _)) _ _ _); k_dflt (refine' first_item ?N ?hm ?_; (case N => k_asm); (case hm => k_mem))))) | (with_reducible ((k_here; (with_reducible show wpAny _ _ (subscriptTail _ _ (Value.ref _) (Value.int (-1) _)) _ _ _); k_dflt (refine' last_item ?N ?hm ?hz ?_; (case N => k_asm); (case hm => k_mem); (case hz => assumption))))) | (with_reducible ((k_here; (with_reducible show wpAny _ _ (subscriptTail _ _ (Value.ref 64) (Value.str _ _)) _ _ _); k_dflt (refine' ett_item ?F ?X ?hx ?_; (case F => k_asm); (case X => k_asm); (case hx => assumption)); intro _))) | walk1)) | (leave1; walk_say "STEP leave1"; try dsimp only) | fail "no step")
  exact hret tz _ _ _ F2 (by simpa using N2)
end
-- Y8
/-- one round in plain words: what is read from σ, who goes, what is left to read -/
noncomputable def hdsOf (os : List (List (List Nat))) : List Int := os.map fun o => num (o.headD [])
inductive Rnd : List (List Nat) × List Nat → Int → List (List Nat) × List Nat → Prop
  | mk {σ : List (List Nat) × List Nat} {z : Int} {os : List (List (List Nat))} {r' : List Nat} : ReadsL σ os ([], r') → os.length = 5 → (∀ o ∈ os, o ≠ [] ∧ ∀ x ∈ o, num x ≠ 0) → MaxIs (pick (fun v => loC v (hdsOf os)) (hdsOf os)) z → MinIs (pick (fun v => upC v (hdsOf os)) (hdsOf os)) z → Rnd σ z (os.flatMap (fun o => (o.filter fun x => !decide (num x = z)) ++ [[]]), r')
theorem ReadsL.both {σ σ' : List (List Nat) × List Nat} {os : List (List (List Nat))} (h : ReadsL σ os σ') : σ'.2.length ≤ σ.2.length ∧ ∀ o ∈ os, o.length ≤ 4 := by
  induction h with
  | nil => exact ⟨Nat.le_refl _, fun o h => nomatch h⟩
  | cons h1 h4 _ ih => exact ⟨Nat.le_trans ih.1 h1.both.2, fun o h => (List.mem_cons.mp h).elim (fun e => e ▸ h4) (ih.2 o)⟩
theorem five {α : Type} {l : List α} (h : l.length = 5) : ∃ a b c d e, l = [a, b, c, d, e] := by
  match l, h with
  | [a, b, c, d, e], _ => exact ⟨a, b, c, d, e, rfl⟩
theorem LxAt.rest {w : World} {c : LxP} {no no' : Int} {pws pws' : List (List Nat)} {r r' : List Nat} {l l' : List (Addr × Obj)} {h₀ h h' : Heap} {L : Addr} {led : List (Addr × Obj)} (hl : LxAt w c no pws r l) (hl' : LxAt w c no' pws' r' l') (k : Keeps h h' l) (N : News h₀ L h (l ++ led)) (N' : News h₀ L h' l') (o : Off c led) : News h₀ L h' led := by
  obtain ⟨tno, ps, pn, vs, sn, rfl, _, _⟩ := hl
  obtain ⟨tno', ps', pn', vs', sn', rfl, _, _⟩ := hl'
  exact News.sub (lex_rest k N N' o) fun p hp => List.mem_append_right _ hp
theorem rot2 {α : Type} {a b : α} {l led : List α} : ∀ q ∈ l ++ (a :: b :: led), q ∈ a :: b :: (l ++ led) := fun q hq => by
  rcases List.mem_append.mp hq with hq | hq
  · exact .tail _ (.tail _ (List.mem_append_left _ hq))
  rcases List.mem_cons.mp hq with rfl | hq
  · exact .head _
  rcases List.mem_cons.mp hq with rfl | hq
  · exact .tail _ (.head _)
  · exact .tail _ (.tail _ (List.mem_append_right _ hq))
noncomputable def lnAsg : Option (Scope × Stmt) := match roundOf with
  | some (sc, q :: _) => some (sc, q)
  | _ => none
noncomputable def lnFor : Option (Scope × Stmt) := match roundOf with
  | some (sc, _ :: _ :: q :: _) => some (sc, q)
  | _ => none
set_option maxHeartbeats 8000000 in
theorem lines_asg {w : World} {A₀ : Around} {base g : Heap} {L1 fa : Addr} {cd : Value} {mg mb : Str → Option Value} {s : Shared} {Q : Flow → Shared → Prop} {E : Value → Shared → Prop} {p : Program} {loose : List Str} {mean : ExcName → Option Value} {nm : Str} {sc : Scope} {m : Str → Option Value} {led : List (Addr × Obj)} {c : LxP} {l : List (Addr × Obj)} {no : Int} {pws : List (List Nat)} {r : List Nat} {S : Stmt} {opss : List (List (List Nat))} {r' : List Nat}
    (hP : lnAsg = some (sc, S)) (B1 : Below A₀ base [] g) (F0 : Fr g L1 s.heap m) (X1 : (Mine.KL w.params).In g) (T1 : Top p loose mean mg mb g) (N0 : News g L1 s.heap (l ++ led)) (hl : LxAt w c no pws r l) (ok : LxOk c) (C : CodeHd base 86 82) (hlx : m (Str.ofString "lexer") = some (.ref c.lx)) (off : Off c led) (hz : pws.length ≤ 1000000) (hr : r.length ≤ 10000) (hR : ReadsL (pws, r) opss ([], r')) (h5 : opss.length = 5)
    (hret : ∀ (FS : List Ln) lls n l' h' tk', FS.map Ln.ops = opss → (∀ x ∈ FS, Words x.us x.ops ∧ @LT.lt Nat _ lls x.a) → LxAt w c (no + nls r - nls r') [] r' l' → l'.map Prod.fst = l.map Prod.fst → (∀ q ∈ l ++ led, @LT.lt Nat _ q.1 lls) → Fr g L1 h' (fun y => if y = Str.ofString "lines" then some (.ref lls) else m y) → News g L1 h' (l' ++ ((lls, listOf (List.toArray (FS.map lnRef)) n) :: (FS.map lnObj ++ led))) → Q .next { s with heap := h', toks := tk' }) :
    wpAny (model PySem.Challenge.rw_st0010_01.row.prog w) (callerA.deeper (envOfC nm sc L1 fa cd)) (exec S (envOfC nm sc L1 fa cd)) Q E s := by
  obtain ⟨h0, g0, r9, k0, os0⟩ := s
  dsimp only at F0 N0 hret ⊢
  conv at hP => lhs; whnf
  injection hP with hP
  injection hP with hP1 hP2
  subst hP1 hP2
  revert X1; k_fill; intro X1
  repeat' ((fail_if_success (with_reducible show wpAny _ _ (exec (Stmt.Expr _ _) _) _ _ _)); (fail_if_success (with_reducible show wpAny _ _ (pyIter _) _ _ _)); (fail_if_success (with_reducible show wpAny _ _ (exec (Stmt.For _ _ _ _ _) _) _ _ _)); (fail_if_success (with_reducible show ∃ _, _)); (fail_if_success (with_reducible show LeaveK h₀ _ _ _ _ _ _)); (fail_if_success (with_reducible show wpAny _ _ (call (Value.ref 94) _) _ _ _)); (fail_if_success (with_reducible show wpAny _ _ (call (Value.ref 101) _) _ _ _)); (fail_if_success (with_reducible show wpAny _ _ (call (Value.ref 106) _) _ _ _)); (fail_if_success (with_reducible show wpAny _ _ (call (Value.ref 87) _) _ _ _)); (fail_if_success (with_reducible show wpAny _ _ (call (Value.ref 113) _) _ _ _)); (fail_if_success (with_reducible show wpAny _ _ (call (Value.ref 118) _) _ _ _)); (fail_if_success (with_reducible show wpAny _ _ (call (Value.ref 56) _) _ _ _)); first | (k_unfold; (try dsimp only)) | (k_end; wrow_close) | (first | ((with_reducible show wpAny _ _ (eval (PySem.Expr.Name _ _) _) _ _ _); with_reducible ((k_here; k_dflt (refine' nameX_L ?F ?v ?_ ?a ?b; (case F => k_asm); (case a => rfl); (case b => rfl); (case v => with_reducible assumption); k_whole)))) | walk1) | (dsimp only; (first | ((with_reducible show wpAny _ _ (eval (PySem.Expr.Name _ _) _) _ _ _); with_reducible ((k_here; k_dflt (refine' nameX_L ?F ?v ?_ ?a ?b; (case F => k_asm); (case a => rfl); (case b => rfl); (case v => with_reducible assumption); k_whole)))) | walk1)) | (leave1; walk_say "STEP leave1"; try dsimp only) | fail "no step")
  (refine' wpAny_le (A' := ktrTop 500 500 callerA.guards nm ?csa L1 fa cd ?cla []) ?hha ?a1a ?a2a ?a3a ?a4a ?a5a; (case a3a => exact rfl); (case a1a => exact rfl); (case a2a => exact Nat.le_of_ble_eq_true rfl); (case a4a => exact rfl); (case a5a => exact Nat.le_of_ble_eq_true rfl))
  refine spec_linesX ok C hl B1 F0 X1 T1 rfl (News.sub N0 fun p hp => List.mem_append_left _ hp) hz hr hR h5 (fun FS lls n l' h' tk' hop hFS hl' ha' hsz FA NA KA => ?_)
  have hlt : ∀ q ∈ l ++ led, @LT.lt Nat _ q.1 lls := fun q hq => Nat.lt_of_lt_of_le (Heap.lt_size (N0 q hq).1) hsz
  have NR := hl.rest hl' KA N0 (News.sub NA fun p hp => .tail _ (List.mem_append_left _ hp)) off
  have NB : News g L1 h' (l' ++ ((lls, listOf (List.toArray (FS.map lnRef)) n) :: (FS.map lnObj ++ led))) := News.sub (News.app NA NR) fun q hq => by
    rcases List.mem_append.mp hq with hq | hq
    · exact List.mem_append_left _ (.tail _ (List.mem_append_left _ hq))
    rcases List.mem_cons.mp hq with rfl | hq
    · exact List.mem_append_left _ (.head _)
    rcases List.mem_append.mp hq with hq | hq
    · exact List.mem_append_left _ (.tail _ (List.mem_append_right _ hq))
    · exact List.mem_append_right _ hq
  clear F0 N0 NA NR KA
  dsimp only
  repeat' ((fail_if_success (with_reducible show wpAny _ _ (exec (Stmt.Expr _ _) _) _ _ _)); (fail_if_success (with_reducible show wpAny _ _ (pyIter _) _ _ _)); (fail_if_success (with_reducible show wpAny _ _ (exec (Stmt.For _ _ _ _ _) _) _ _ _)); (fail_if_success (with_reducible show ∃ _, _)); (fail_if_success (with_reducible show LeaveK h₀ _ _ _ _ _ _)); (fail_if_success (with_reducible show wpAny _ _ (call (Value.ref 94) _) _ _ _)); (fail_if_success (with_reducible show wpAny _ _ (call (Value.ref 101) _) _ _ _)); (fail_if_success (with_reducible show wpAny _ _ (call (Value.ref 106) _) _ _ _)); (fail_if_success (with_reducible show wpAny _ _ (call (Value.ref 87) _) _ _ _)); (fail_if_success (with_reducible show wpAny _ _ (call (Value.ref 113) _) _ _ _)); (fail_if_success (with_reducible show wpAny _ _ (call (Value.ref 118) _) _ _ _)); (fail_if_success (with_reducible show wpAny _ _ (call (Value.ref 56) _) _ _ _)); first | (k_unfold; (try dsimp only)) | (k_end; wrow_close) | (first | ((with_reducible show wpAny _ _ (eval (PySem.Expr.Name _ _) _) _ _ _); with_reducible ((k_here; k_dflt (refine' nameX_L ?F ?v ?_ ?a ?b; (case F => k_asm); (case a => rfl); (case b => rfl); (case v => with_reducible assumption); k_whole)))) | walk1) | (dsimp only; (first | ((with_reducible show wpAny _ _ (eval (PySem.Expr.Name _ _) _) _ _ _); with_reducible ((k_here; k_dflt (refine' nameX_L ?F ?v ?_ ?a ?b; (case F => k_asm); (case a => rfl); (case b => rfl); (case v => with_reducible assumption); k_whole)))) | walk1)) | (leave1; walk_say "STEP leave1"; try dsimp only) | fail "no step")
  exact hret FS lls n l' _ _ hop hFS hl' ha' hlt (by assumption) (by assumption)
set_option maxHeartbeats 8000000 in
theorem push_for {w : World} {A₀ : Around} {base g : Heap} {L1 fa : Addr} {cd : Value} {mg mb : Str → Option Value} {s : Shared} {Q : Flow → Shared → Prop} {E : Value → Shared → Prop} {p : Program} {loose : List Str} {mean : ExcName → Option Value} {nm : Str} {sc : Scope} {m : Str → Option Value} {led : List (Addr × Obj)} {c : LxP} {l : List (Addr × Obj)} {no : Int} {pws : List (List Nat)} {r : List Nat} {gl : Addr} {gs : List Value} {gn : Nat} {z : Int} {tz : Tok} {og : Obj} {S : Stmt} {lls : Addr} {nl : Nat} {LS : List Ln}
    (hP : lnFor = some (sc, S)) (B1 : Below A₀ base [] g) (F0 : Fr g L1 s.heap m) (X1 : (Mine.KL w.params).In g) (T1 : Top p loose mean mg mb g) (N0 : News g L1 s.heap ((gl, listOf (gs ++ [Value.int z tz]).toArray gn) :: (L1 + 1 + 1 + 1 + 1, og) :: (l ++ led))) (hal : (lls, listOf (List.toArray (LS.map lnRef)) nl) ∈ led) (hLS : ∀ x ∈ LS, LnOk x ∧ lnObj x ∈ led) (hl : LxAt w c no pws r l) (ok : LxOk c) (hlx : m (Str.ofString "lexer") = some (.ref c.lx)) (hls : m (Str.ofString "lines") = some (.ref lls)) (hdg : og.data = .cell (some (.ref gl))) (off : Off c ((gl, listOf (gs ++ [Value.int z tz]).toArray gn) :: (L1 + 1 + 1 + 1 + 1, og) :: led)) (hz : pws.length + 5 * LS.length ≤ 900) (hgz : gs.length ≤ 1000)
    (hret : ∀ m' l' h' tk', LxAt w c no (pws ++ LS.flatMap (lnPush z)) r l' → l'.map Prod.fst = l.map Prod.fst → (∀ y, y ≠ Str.ofString "word" → y ≠ Str.ofString "line" → m' y = m y) → Fr g L1 h' m' → News g L1 h' ((gl, listOf (gs ++ [Value.int z tz]).toArray gn) :: (L1 + 1 + 1 + 1 + 1, og) :: (l' ++ led)) → Q .next { s with heap := h', toks := tk' }) :
    wpAny (model PySem.Challenge.rw_st0010_01.row.prog w) (callerA.deeper (envOfC nm sc L1 fa cd)) (exec S (envOfC nm sc L1 fa cd)) Q E s := by
  obtain ⟨h0, g0, r9, k0, os0⟩ := s
  dsimp only at F0 N0 hret ⊢
  conv at hP => lhs; whnf
  injection hP with hP
  injection hP with hP1 hP2
  subst hP1 hP2
  revert X1; k_fill; intro X1
  refine wpAny_mono (Q := Q) (E := fun _ _ => False) ?_ (fun _ _ q => q) (fun _ _ f => False.elim f)
  refine For_invVF F0 (by rfl) (by rfl) ?_
  repeat' ((fail_if_success (with_reducible show wpAny _ _ (exec (Stmt.Expr _ _) _) _ _ _)); (fail_if_success (with_reducible show wpAny _ _ (pyIter _) _ _ _)); (fail_if_success (with_reducible show wpAny _ _ (exec (Stmt.For _ _ _ _ _) _) _ _ _)); (fail_if_success (with_reducible show ∃ _, _)); (fail_if_success (with_reducible show LeaveK h₀ _ _ _ _ _ _)); (fail_if_success (with_reducible show wpAny _ _ (call (Value.ref 94) _) _ _ _)); (fail_if_success (with_reducible show wpAny _ _ (call (Value.ref 101) _) _ _ _)); (fail_if_success (with_reducible show wpAny _ _ (call (Value.ref 106) _) _ _ _)); (fail_if_success (with_reducible show wpAny _ _ (call (Value.ref 87) _) _ _ _)); (fail_if_success (with_reducible show wpAny _ _ (call (Value.ref 113) _) _ _ _)); (fail_if_success (with_reducible show wpAny _ _ (call (Value.ref 118) _) _ _ _)); (fail_if_success (with_reducible show wpAny _ _ (call (Value.ref 56) _) _ _ _)); first | (k_unfold; (try dsimp only)) | (k_end; wrow_close) | (first | ((with_reducible show wpAny _ _ (eval (PySem.Expr.Name _ _) _) _ _ _); with_reducible ((k_here; k_dflt (refine' nameX_L ?F ?v ?_ ?a ?b; (case F => k_asm); (case a => rfl); (case b => rfl); (case v => with_reducible assumption); k_whole)))) | walk1) | (dsimp only; (first | ((with_reducible show wpAny _ _ (eval (PySem.Expr.Name _ _) _) _ _ _); with_reducible ((k_here; k_dflt (refine' nameX_L ?F ?v ?_ ?a ?b; (case F => k_asm); (case a => rfl); (case b => rfl); (case v => with_reducible assumption); k_whole)))) | walk1)) | (leave1; walk_say "STEP leave1"; try dsimp only) | fail "no step")
  exact lines_loop rfl B1 F0 X1 T1 N0 hal hLS hl ok hlx hdg off hz hgz hret
set_option maxHeartbeats 8000000 in
theorem round_turn {w : World} {A₀ : Around} {base g : Heap} {L1 fa : Addr} {cd : Value} {mg mb : Str → Option Value} {s : Shared} {Q : Flow → Shared → Prop} {E : Value → Shared → Prop} {p : Program} {loose : List Str} {mean : ExcName → Option Value} {nm : Str} {sc : Scope} {m : Str → Option Value} {led : List (Addr × Obj)} {c : LxP} {l : List (Addr × Obj)} {no : Int} {pws : List (List Nat)} {r : List Nat} {gl : Addr} {gs : List Value} {gn : Nat} {z : Int} {og : Obj} {S : List Stmt} {σ' : List (List Nat) × List Nat}
    (hP : roundOf = some (sc, S)) (B1 : Below A₀ base [] g) (F0 : Fr g L1 s.heap m) (X1 : (Mine.KL w.params).In g) (T1 : Top p loose mean mg mb g) (N0 : News g L1 s.heap ((gl, listOf gs.toArray gn) :: (L1 + 1 + 1 + 1 + 1, og) :: (l ++ led))) (hl : LxAt w c no pws r l) (ok : LxOk c) (C : CodeHd base 86 82) (hlx : m (Str.ofString "lexer") = some (.ref c.lx)) (hdg : og.data = .cell (some (.ref gl))) (off : Off c ((gl, listOf gs.toArray gn) :: (L1 + 1 + 1 + 1 + 1, og) :: led)) (hgled : ∀ q ∈ (L1 + 1 + 1 + 1 + 1, og) :: (l ++ led), q.1 ≠ gl) (hz : pws.length ≤ 100) (hr : r.length ≤ 10000) (hgz : gs.length ≤ 100) (hR : Rnd (pws, r) z σ')
    (hret : ∀ t m' gn' l' h' tk', LxAt w c (no + nls r - nls σ'.2) σ'.1 σ'.2 l' → l'.map Prod.fst = l.map Prod.fst → σ'.1.length ≤ 30 → σ'.2.length ≤ r.length → (∀ y, y ≠ Str.ofString "word" → y ≠ Str.ofString "line" → y ≠ Str.ofString "lines" → m' y = m y) → Fr g L1 h' m' → News g L1 h' ((gl, listOf (gs ++ [Value.int z t]).toArray gn') :: (L1 + 1 + 1 + 1 + 1, og) :: (l' ++ led)) → Q .next { s with heap := h', toks := tk' }) :
    wpAny (model PySem.Challenge.rw_st0010_01.row.prog w) (callerA.deeper (envOfC nm sc L1 fa cd)) (execs S (envOfC nm sc L1 fa cd)) Q E s := by
  conv at hP => lhs; whnf
  injection hP with hP
  injection hP with hP1 hP2
  subst hP1 hP2
  cases hR with
  | @mk os r' hRL h5 hos hmax hmin =>
  have hb := hRL.both
  refine wpAny_execs_cons (lines_asg (led := (gl, listOf gs.toArray gn) :: (L1 + 1 + 1 + 1 + 1, og) :: led) rfl B1 F0 X1 T1 (News.sub N0 rot2) hl ok C hlx off (by omega) hr hRL h5 fun FS lls n l' h1 tk1 hop hFS hl' ha' hlt F1 N1 => ?_)
  clear F0
  have hL : ∀ x ∈ FS, x.ops ∈ os := fun x hx => hop ▸ List.mem_map_of_mem hx
  have hgl : gl ≠ lls := Nat.ne_of_lt (hlt _ (List.mem_append_right _ (.head _)))
  obtain ⟨o9, hpb⟩ := hl.pb
  have lpb : @LT.lt Nat _ c.pb lls := hlt (c.pb, o9) (List.mem_append_left _ hpb)
  have lgl : @LT.lt Nat _ gl lls := hlt _ (List.mem_append_right _ (.head _))
  have ehd : FS.map hdNum = hdsOf os := by rw [← hop]; unfold hdsOf; rw [List.map_map]; rfl
  have hl5 : (hdsOf os).length = 5 := by unfold hdsOf; rw [List.length_map]; exact h5
  obtain ⟨k0, k1, k2, k3, k4, ek⟩ := five hl5
  rw [ek] at hmax hmin ehd
  have HD : ∀ x ∈ FS, LnHd x := fun x hx => by
    obtain ⟨hne, hnum⟩ := hos _ (hL x hx)
    have h4 := hb.2 _ (hL x hx)
    cases e : x.ops with
    | nil => exact absurd e hne
    | cons o rr =>
      rw [e] at h4
      exact ⟨o, rr, e, by simp only [List.length_cons] at h4; omega, hnum o (by rw [e]; exact List.mem_cons_self ..), (hFS x hx).1⟩
  refine wpAny_execs_cons (mid_stmt (led := l' ++ ((lls, listOf (List.toArray (FS.map lnRef)) n) :: (FS.map lnObj ++ led))) (FS := FS) (lls := lls) (nl := n) (gn := gn) rfl B1 F1 X1 (News.sub N1 fun q hq => ?_) T1 (List.mem_append_right _ (.head _)) (fun x hx => List.mem_append_right _ (.tail _ (List.mem_append_left _ (List.mem_map_of_mem hx)))) HD ehd (if_pos rfl) hdg (fun q hq => ?_) (hgled _ (.head _)) hgz hmax hmin fun tz gn2 h2 tk2 F2 N2 => ?_)
  · rcases List.mem_cons.mp hq with rfl | hq
    · exact List.mem_append_right _ (.tail _ (List.mem_append_right _ (.head _)))
    rcases List.mem_cons.mp hq with rfl | hq
    · exact List.mem_append_right _ (.tail _ (List.mem_append_right _ (.tail _ (.head _))))
    rcases List.mem_append.mp hq with hq | hq
    · exact List.mem_append_left _ hq
    rcases List.mem_cons.mp hq with rfl | hq
    · exact List.mem_append_right _ (.head _)
    rcases List.mem_append.mp hq with hq | hq
    · exact List.mem_append_right _ (.tail _ (List.mem_append_left _ hq))
    · exact List.mem_append_right _ (.tail _ (List.mem_append_right _ (.tail _ (.tail _ hq))))
  · rcases List.mem_append.mp hq with hq | hq
    · obtain ⟨p, hp, e⟩ := same_addr ha' hq
      exact e ▸ hgled p (.tail _ (List.mem_append_left _ hp))
    rcases List.mem_cons.mp hq with rfl | hq
    · exact hgl.symm
    rcases List.mem_append.mp hq with hq | hq
    · obtain ⟨x, hx, rfl⟩ := List.mem_map.mp hq
      exact Nat.ne_of_gt (Nat.lt_trans lgl (hFS x hx).2)
    · exact hgled q (.tail _ (List.mem_append_right _ hq))
  clear F1 N1
  have hlen : FS.length = 5 := by
    have := congrArg List.length hop
    rw [List.length_map, h5] at this
    exact this
  refine wpAny_execs_cons (push_for (led := (lls, listOf (List.toArray (FS.map lnRef)) n) :: (FS.map lnObj ++ led)) (LS := FS) rfl B1 F2 X1 T1 N2 (.head _) (fun x hx => ⟨⟨(hFS x hx).1, (hos _ (hL x hx)).2, hb.2 _ (hL x hx)⟩, .tail _ (List.mem_append_left _ (List.mem_map_of_mem hx))⟩) hl' ok ((if_neg (by decide)).trans hlx) (if_pos rfl) hdg (fun q hq => ?_) (by rw [hlen]; show 0 + 5 * 5 ≤ 900; omega) (by omega) fun m3 l3 h3 tk3 a3 b3 e3 F3 N3 => ?_)
  · rcases List.mem_cons.mp hq with rfl | hq
    · exact off (gl, listOf gs.toArray gn) (.head _)
    rcases List.mem_cons.mp hq with rfl | hq
    · exact off _ (.tail _ (.head _))
    rcases List.mem_cons.mp hq with rfl | hq
    · exact Off.above ok lpb
    rcases List.mem_append.mp hq with hq | hq
    · obtain ⟨x, hx, rfl⟩ := List.mem_map.mp hq
      exact Off.above ok (Nat.lt_trans lpb (hFS x hx).2)
    · exact off q (.tail _ (.tail _ hq))
  clear F2 N2
  refine wpAny_execs_nil ?_
  have ep : FS.flatMap (lnPush z) = os.flatMap fun o => (o.filter fun x => !decide (num x = z)) ++ [[]] := by
    rw [← hop, List.flatMap_map]
    rfl
  rw [List.nil_append, ep] at a3
  refine hret tz m3 gn2 l3 h3 tk3 a3 (b3.trans ha') ?_ hb.1 (fun y h1 h2 h4 => (e3 y h1 h2).trans (if_neg h4)) F3 (News.sub N3 fun q hq => ?_)
  · have bd : ∀ l : List (List (List Nat)), (∀ o ∈ l, o.length ≤ 4) → (l.flatMap fun o => (o.filter fun x => !decide (num x = z)) ++ [[]]).length ≤ 5 * l.length := by
      intro l
      induction l with
      | nil => intro _; exact Nat.le_refl _
      | cons o l ih =>
        intro h
        have h1 := ih fun x hx => h x (List.mem_cons_of_mem _ hx)
        have h2 := h o (List.mem_cons_self ..)
        have h3 := List.length_filter_le (fun x => !decide (num x = z)) o
        rw [List.flatMap_cons, List.length_append, List.length_append, List.length_singleton, List.length_cons]
        omega
    exact Nat.le_trans (bd os hb.2) (by rw [h5]; omega)
  · rcases List.mem_cons.mp hq with rfl | hq
    · exact .head _
    rcases List.mem_cons.mp hq with rfl | hq
    · exact .tail _ (.head _)
    rcases List.mem_append.mp hq with hq | hq
    · exact .tail _ (.tail _ (List.mem_append_left _ hq))
    · exact .tail _ (.tail _ (List.mem_append_right _ (.tail _ (List.mem_append_right _ hq))))
-- Y9
noncomputable def lawFor : Option (Scope × Stmt) := match lawOf with
  | some (sc, _ :: _ :: _ :: _ :: _ :: _ :: _ :: q :: _) => some (sc, q)
  | _ => none
theorem ints4 {ys : List Value} {k0 k1 k2 k3 : Int} (h : IntsAre ys [k0, k1, k2, k3]) : ∃ t0 t1 t2 t3, ys = [.int k0 t0, .int k1 t1, .int k2 t2, .int k3 t3] := by
  cases h with
  | cons _ t0 h => cases h with
    | cons _ t1 h => cases h with
      | cons _ t2 h => cases h with
        | cons _ t3 h => cases h with
          | nil => exact ⟨t0, t1, t2, t3, rfl⟩
inductive RJ (w : World) (c : LxP) (m : Str → Option Value) (l led : List (Addr × Obj)) (L1 gl : Addr) (og : Obj) (no : Int) (σ : Nat → List (List Nat) × List Nat) (z : Nat → Int) : Nat → (Str → Option Value) → List (Addr × Obj) → Prop
  | mk {i : Nat} {gs : List Value} {gn1 : Nat} {l1 : List (Addr × Obj)} {ok1 : Obj} {vk1 : Option Value} {m1 : Str → Option Value} : LxAt w c (no + nls (σ 0).2 - nls (σ i).2) (σ i).1 (σ i).2 l1 → l1.map Prod.fst = l.map Prod.fst → IntsAre gs ((List.range i).map z) → ok1.data = .cell vk1 → (σ i).1.length ≤ 100 → (σ i).2.length ≤ 10000 → (∀ y, y ≠ Str.ofString "word" → y ≠ Str.ofString "line" → y ≠ Str.ofString "lines" → m1 y = m y) → RJ w c m l led L1 gl og no σ z i m1 ((L1 + 1 + 1 + 1, ok1) :: (gl, listOf gs.toArray gn1) :: (L1 + 1 + 1 + 1 + 1, og) :: (l1 ++ led))
set_option maxHeartbeats 8000000 in
theorem rounds_iter {w : World} {A₀ : Around} {base g : Heap} {L1 fa : Addr} {cd : Value} {mg mb : Str → Option Value} {s : Shared} {Q : Flow → Shared → Prop} {E : Value → Shared → Prop} {p : Program} {loose : List Str} {mean : ExcName → Option Value} {nm : Str} {sc : Scope} {m : Str → Option Value} {led : List (Addr × Obj)} {c : LxP} {l : List (Addr × Obj)} {no : Int}  {gl : Addr} {gn : Nat} {og okk : Obj} {vk : Option Value} {σ : Nat → List (List Nat) × List Nat} {z : Nat → Int} {S : List Stmt} {px : Pos} {rA : Addr} {tr1 tr2 tr3 : Tok}
    (hP : roundOf = some (sc, S)) (B1 : Below A₀ base [] g) (F0 : Fr g L1 s.heap m) (X1 : (Mine.KL w.params).In g) (T1 : Top p loose mean mg mb g) (N0 : News g L1 s.heap ((L1 + 1 + 1 + 1, okk) :: (gl, listOf #[] gn) :: (L1 + 1 + 1 + 1 + 1, og) :: (l ++ led))) (hrg : IsRange s.heap rA 0 4 1 tr1 tr2 tr3) (hl : LxAt w c no (σ 0).1 (σ 0).2 l) (ok : LxOk c) (C : CodeHd base 86 82) (hlx : m (Str.ofString "lexer") = some (.ref c.lx)) (hdk : okk.data = .cell vk) (hdg : og.data = .cell (some (.ref gl))) (off : Off c ((L1 + 1 + 1 + 1, okk) :: (gl, listOf #[] gn) :: (L1 + 1 + 1 + 1 + 1, og) :: led)) (hgled : ∀ q ∈ (L1 + 1 + 1 + 1, okk) :: (L1 + 1 + 1 + 1 + 1, og) :: (l ++ led), q.1 ≠ gl) (hkled : ∀ q ∈ (gl, listOf #[] gn) :: (L1 + 1 + 1 + 1 + 1, og) :: (l ++ led), q.1 ≠ L1 + 1 + 1 + 1) (hz : (σ 0).1.length ≤ 100) (hr : (σ 0).2.length ≤ 10000) (hR : ∀ i, i < 4 → Rnd (σ i) (z i) (σ (i + 1)))
    (hret : ∀ t0 t1 t2 t3 m1 gn' vk' ok' l' h' tk', ok'.data = .cell vk' → LxAt w c (no + nls (σ 0).2 - nls (σ 4).2) (σ 4).1 (σ 4).2 l' → l'.map Prod.fst = l.map Prod.fst → (∀ y, y ≠ Str.ofString "word" → y ≠ Str.ofString "line" → y ≠ Str.ofString "lines" → m1 y = m y) → Fr g L1 h' m1 → News g L1 h' ((L1 + 1 + 1 + 1, ok') :: (gl, listOf #[Value.int (z 0) t0, Value.int (z 1) t1, Value.int (z 2) t2, Value.int (z 3) t3] gn') :: (L1 + 1 + 1 + 1 + 1, og) :: (l' ++ led)) → Q .next { s with heap := h', toks := tk' }) :
    wpAny (model PySem.Challenge.rw_st0010_01.row.prog w) (callerA.deeper (envOfC nm sc L1 fa cd)) (pyIter (.ref rA)) (fun it s₂ => TurnsAt PySem.Challenge.rw_st0010_01.row.prog w (callerA.deeper (envOfC nm sc L1 fa cd)) g (envOfC nm sc L1 fa cd) (Expr.Name (Str.ofString "k") px) S Q E it s₂) E s := by
  have hPc := hP
  conv at hPc => lhs; whnf
  injection hPc with hPc
  injection hPc with hPc1 hPc2
  subst hPc1 hPc2
  obtain ⟨o9, hpb⟩ := hl.pb
  have lpb : @LT.lt Nat _ c.pb s.heap.objs.size := Heap.lt_size (N0 (c.pb, o9) (.tail _ (.tail _ (.tail _ (List.mem_append_left _ hpb))))).1
  have lgl : @LT.lt Nat _ gl s.heap.objs.size := Heap.lt_size (N0 _ (.tail _ (.head _))).1
  have lck : @LT.lt Nat _ (L1 + 1 + 1 + 1) s.heap.objs.size := Heap.lt_size (N0 _ (.head _)).1
  refine for_range_c (n := 4) rfl F0 N0 hrg (by rfl) (by rfl) (RJ w c m l led L1 gl og no σ z) (.mk (gs := []) (by rw [Int.add_sub_cancel]; exact hl) rfl .nil hdk hz hr fun _ _ _ _ => rfl) ?_ ?_
  · rintro i t m₁ news₁ h tk own Q' hi ⟨hl1, ha1, hgs, hdk1, hz1, hr1, hm1⟩ hown F1 N1 hk
    rename_i gs gn1 l1 ok1 vk1
    have hgl1 := hgs.length
    refine wpAny_assign_Name ?_
    refine storeX_C (v₀ := vk1) (o := ok1) (c := L1 + 1 + 1 + 1) F1 (News.sub N1 (l' := (L1 + 1 + 1 + 1, ok1) :: (gl, listOf gs.toArray gn1) :: (L1 + 1 + 1 + 1 + 1, og) :: (l1 ++ (led ++ own))) fun q hq => ?_) rfl (UpdF.head fun q hq => ?_) hdk1 (fun h2 ok2 F2 N2 hdk2 => ?_) rfl rfl
    · rcases List.mem_cons.mp hq with rfl | hq
      · exact List.mem_append_right _ (.head _)
      rcases List.mem_cons.mp hq with rfl | hq
      · exact List.mem_append_right _ (.tail _ (.head _))
      rcases List.mem_cons.mp hq with rfl | hq
      · exact List.mem_append_right _ (.tail _ (.tail _ (.head _)))
      rcases List.mem_append.mp hq with hq | hq
      · exact List.mem_append_right _ (.tail _ (.tail _ (.tail _ (List.mem_append_left _ hq))))
      rcases List.mem_append.mp hq with hq | hq
      · exact List.mem_append_right _ (.tail _ (.tail _ (.tail _ (List.mem_append_right _ hq))))
      · exact List.mem_append_left _ hq
    · rcases List.mem_cons.mp hq with rfl | hq
      · exact hkled (gl, listOf #[] gn) (.head _)
      rcases List.mem_cons.mp hq with rfl | hq
      · exact hkled _ (.tail _ (.head _))
      rcases List.mem_append.mp hq with hq | hq
      · obtain ⟨p, hp, e⟩ := same_addr ha1 hq
        exact e ▸ hkled p (.tail _ (.tail _ (List.mem_append_left _ hp)))
      rcases List.mem_append.mp hq with hq | hq
      · exact hkled q (.tail _ (.tail _ (List.mem_append_right _ hq)))
      · rw [hown q hq]; exact Nat.ne_of_gt lck
    clear F1 N1
    refine round_turn (led := (L1 + 1 + 1 + 1, ok2) :: (led ++ own)) (gs := gs) (gn := gn1) (z := z i) hP B1 F2 X1 T1 (News.sub N2 fun q hq => ?_) hl1 ok C ((hm1 _ (by decide) (by decide) (by decide)).trans hlx) hdg (fun q hq => ?_) (fun q hq => ?_) hz1 hr1 (by rw [hgl1]; simp; omega) (hR i hi) fun t' m' gn' l' h' tk' a b hz2 hr2 e F3 N3 => ?_
    · rcases List.mem_cons.mp hq with rfl | hq
      · exact .tail _ (.head _)
      rcases List.mem_cons.mp hq with rfl | hq
      · exact .tail _ (.tail _ (.head _))
      rcases List.mem_append.mp hq with hq | hq
      · exact .tail _ (.tail _ (.tail _ (List.mem_append_left _ hq)))
      rcases List.mem_cons.mp hq with rfl | hq
      · exact .head _
      · exact .tail _ (.tail _ (.tail _ (List.mem_append_right _ hq)))
    · rcases List.mem_cons.mp hq with rfl | hq
      · exact off (gl, listOf #[] gn) (.tail _ (.head _))
      rcases List.mem_cons.mp hq with rfl | hq
      · exact off _ (.tail _ (.tail _ (.head _)))
      rcases List.mem_cons.mp hq with rfl | hq
      · exact off (L1 + 1 + 1 + 1, okk) (.head _)
      rcases List.mem_append.mp hq with hq | hq
      · exact off q (.tail _ (.tail _ (.tail _ hq)))
      · rw [hown q hq]; exact Off.above ok lpb
    · rcases List.mem_cons.mp hq with rfl | hq
      · exact hgled _ (.tail _ (.head _))
      rcases List.mem_append.mp hq with hq | hq
      · obtain ⟨p, hp, e⟩ := same_addr ha1 hq
        exact e ▸ hgled p (.tail _ (.tail _ (List.mem_append_left _ hp)))
      rcases List.mem_cons.mp hq with rfl | hq
      · exact hgled (L1 + 1 + 1 + 1, okk) (.head _)
      rcases List.mem_append.mp hq with hq | hq
      · exact hgled q (.tail _ (.tail _ (List.mem_append_right _ hq)))
      · rw [hown q hq]; exact Nat.ne_of_gt lgl
    have e8 : no + nls (σ 0).2 - nls (σ i).2 + nls (σ i).2 - nls (σ (i + 1)).2 = no + nls (σ 0).2 - nls (σ (i + 1)).2 := by omega
    rw [e8] at a
    refine hk h' tk' m' ((L1 + 1 + 1 + 1, ok2) :: (gl, listOf (gs ++ [Value.int (z i) t']).toArray gn') :: (L1 + 1 + 1 + 1 + 1, og) :: (l' ++ led)) F3 (News.sub N3 fun q hq => ?_) ?_ (.mk a (b.trans ha1) ?_ hdk2 (by omega) (Nat.le_trans hr2 hr1) fun y h1 h2 h3 => (e y h1 h2 h3).trans (hm1 y h1 h2 h3))
    · rcases List.mem_append.mp hq with hq | hq
      · exact .tail _ (.tail _ (List.mem_append_right _ (.tail _ (List.mem_append_right _ hq))))
      rcases List.mem_cons.mp hq with rfl | hq
      · exact .tail _ (.tail _ (List.mem_append_right _ (.head _)))
      rcases List.mem_cons.mp hq with rfl | hq
      · exact .head _
      rcases List.mem_cons.mp hq with rfl | hq
      · exact .tail _ (.head _)
      rcases List.mem_append.mp hq with hq | hq
      · exact .tail _ (.tail _ (List.mem_append_left _ hq))
      · exact .tail _ (.tail _ (List.mem_append_right _ (.tail _ (List.mem_append_left _ hq))))
    · simp only [List.map_cons, List.map_append, b]
    · rw [List.range_succ, List.map_append]
      exact hgs.append (.cons _ _ .nil)
  · intro h' tk m1 nw F5 N5 hJ
    generalize hk5 : 4 = k5 at hJ
    cases hJ with
    | mk hl1 ha1 hgs hdk1 hz1 hr1 hm1 =>
      subst hk5
      obtain ⟨t0, t1, t2, t3, rfl⟩ := ints4 (show IntsAre _ [z 0, z 1, z 2, z 3] from hgs)
      exact hret t0 t1 t2 t3 m1 _ _ _ _ h' tk hdk1 hl1 ha1 hm1 F5 N5
set_option maxHeartbeats 8000000 in
theorem rounds {w : World} {A₀ : Around} {base g : Heap} {L1 fa : Addr} {cd : Value} {mg mb : Str → Option Value} {s : Shared} {Q : Flow → Shared → Prop} {E : Value → Shared → Prop} {p : Program} {loose : List Str} {mean : ExcName → Option Value} {nm : Str} {sc : Scope} {m : Str → Option Value} {led : List (Addr × Obj)} {c : LxP} {l : List (Addr × Obj)} {no : Int}  {gl : Addr} {gn : Nat} {og okk : Obj} {vk : Option Value} {σ : Nat → List (List Nat) × List Nat} {z : Nat → Int} {S : Stmt}
    (hP : lawFor = some (sc, S)) (B1 : Below A₀ base [] g) (F0 : Fr g L1 s.heap m) (X1 : (Mine.KL w.params).In g) (T1 : Top p loose mean mg mb g) (N0 : News g L1 s.heap ((L1 + 1 + 1 + 1, okk) :: (gl, listOf #[] gn) :: (L1 + 1 + 1 + 1 + 1, og) :: (l ++ led))) (hl : LxAt w c no (σ 0).1 (σ 0).2 l) (ok : LxOk c) (C : CodeHd base 86 82) (hlx : m (Str.ofString "lexer") = some (.ref c.lx)) (hdk : okk.data = .cell vk) (hdg : og.data = .cell (some (.ref gl))) (off : Off c ((L1 + 1 + 1 + 1, okk) :: (gl, listOf #[] gn) :: (L1 + 1 + 1 + 1 + 1, og) :: led)) (hgled : ∀ q ∈ (L1 + 1 + 1 + 1, okk) :: (L1 + 1 + 1 + 1 + 1, og) :: (l ++ led), q.1 ≠ gl) (hkled : ∀ q ∈ (gl, listOf #[] gn) :: (L1 + 1 + 1 + 1 + 1, og) :: (l ++ led), q.1 ≠ L1 + 1 + 1 + 1) (hz : (σ 0).1.length ≤ 100) (hr : (σ 0).2.length ≤ 10000) (hR : ∀ i, i < 4 → Rnd (σ i) (z i) (σ (i + 1)))
    (hret : ∀ t0 t1 t2 t3 m1 gn' vk' ok' l' h' tk', ok'.data = .cell vk' → LxAt w c (no + nls (σ 0).2 - nls (σ 4).2) (σ 4).1 (σ 4).2 l' → l'.map Prod.fst = l.map Prod.fst → (∀ y, y ≠ Str.ofString "word" → y ≠ Str.ofString "line" → y ≠ Str.ofString "lines" → m1 y = m y) → Fr g L1 h' m1 → News g L1 h' ((L1 + 1 + 1 + 1, ok') :: (gl, listOf #[Value.int (z 0) t0, Value.int (z 1) t1, Value.int (z 2) t2, Value.int (z 3) t3] gn') :: (L1 + 1 + 1 + 1 + 1, og) :: (l' ++ led)) → Q .next { s with heap := h', toks := tk' }) :
    wpAny (model PySem.Challenge.rw_st0010_01.row.prog w) (callerA.deeper (envOfC nm sc L1 fa cd)) (exec S (envOfC nm sc L1 fa cd)) Q E s := by
  obtain ⟨h0, g0, r9, k0, os0⟩ := s
  dsimp only at F0 N0 hret ⊢
  conv at hP => lhs; whnf
  injection hP with hP
  injection hP with hP1 hP2
  subst hP1 hP2
  revert X1; k_fill; intro X1
  refine wpAny_mono (Q := Q) (E := fun _ _ => False) ?_ (fun _ _ q => q) (fun _ _ f => False.elim f)
  refine For_turns F0 ?_
  repeat' ((fail_if_success (with_reducible show wpAny _ _ (exec (Stmt.Expr _ _) _) _ _ _)); (fail_if_success (with_reducible show wpAny _ _ (pyIter _) _ _ _)); (fail_if_success (with_reducible show wpAny _ _ (exec (Stmt.For _ _ _ _ _) _) _ _ _)); (fail_if_success (with_reducible show ∃ _, _)); (fail_if_success (with_reducible show LeaveK h₀ _ _ _ _ _ _)); (fail_if_success (with_reducible show wpAny _ _ (call (Value.ref 94) _) _ _ _)); (fail_if_success (with_reducible show wpAny _ _ (call (Value.ref 101) _) _ _ _)); (fail_if_success (with_reducible show wpAny _ _ (call (Value.ref 106) _) _ _ _)); (fail_if_success (with_reducible show wpAny _ _ (call (Value.ref 87) _) _ _ _)); (fail_if_success (with_reducible show wpAny _ _ (call (Value.ref 113) _) _ _ _)); (fail_if_success (with_reducible show wpAny _ _ (call (Value.ref 118) _) _ _ _)); (fail_if_success (with_reducible show wpAny _ _ (call (Value.ref 56) _) _ _ _)); first | (k_unfold; (try dsimp only)) | (k_end; wrow_close) | walk1 | (dsimp only; walk1) | (leave1; walk_say "STEP leave1"; try dsimp only) | fail "no step")
  rename Fr g _ _ _ => F9
  rename News g _ _ _ => N9
  rename IsRange _ _ _ _ _ _ _ _ => hrg
  exact rounds_iter rfl B1 F9 X1 T1 N9 hrg hl ok C hlx hdk hdg off hgled hkled hz hr hR hret
-- U1
section
noncomputable def textInner : Option (Scope × List Stmt) := match (PySem.Challenge.pw_st0010_01.main.body.drop 61 : List Stmt) with
  | Stmt.FunctionDef _ _ (_ :: _ :: Stmt.For _ _ (Stmt.For _ _ q _ _ :: _) _ _ :: _) _ _ _ sc _ _ _ :: _ => some (sc, q)
  | _ => none
noncomputable def uAt (i : Nat) : Option (Scope × Stmt) := match textInner with
  | some (sc, l) => (l[i]?).map fun q => (sc, q)
  | none => none
noncomputable def esc (l : List Nat) : List Nat := l.flatMap fun c => [92, c]
noncomputable def wh (i : Int) : Nat := if i = 0 then 10 else if i = 1 then 9 else if i = 2 then 13 else 32
noncomputable def formN (nm : List Nat) (st : Int) : List Nat :=
  if (st.fdiv 4).fmod 4 = 0 then nm ++ [wh (st.fmod 4)] else if (st.fdiv 4).fmod 4 = 1 then esc nm ++ [wh (st.fmod 4)]
  else if (st.fdiv 4).fmod 4 = 2 then [wh (st.fmod 4), 34] ++ nm ++ [34] else [wh (st.fmod 4), 34] ++ esc nm ++ [34]
noncomputable def form0 (st : Int) : List Nat :=
  if (st.fdiv 4).fmod 5 = 0 then [34, 34] else if (st.fdiv 4).fmod 5 = 1 then [34, wh (st.fmod 4), 34] else if (st.fdiv 4).fmod 5 = 2 then [34, 92, 34, 34]
  else if (st.fdiv 4).fmod 5 = 3 then [97, 34, wh (st.fmod 4)] else [92, wh (st.fmod 4), wh (st.fmod 4)]
theorem item_wh (i : Int) : Txt.item (Str.ofString "\n\t\r ") (i.fmod 4) = ⟨#[wh (i.fmod 4)]⟩ := by
  have h1 := Int.fmod_nonneg_of_pos i (show (0 : Int) < 4 by decide)
  have h2 := Int.fmod_lt_of_pos i (show (0 : Int) < 4 by decide)
  generalize i.fmod 4 = j at h1 h2
  rw [ofs_ws]
  have h3 : j = 0 ∨ j = 1 ∨ j = 2 ∨ j = 3 := by omega
  rcases h3 with rfl | rfl | rfl | rfl <;> exact item_meets (by decide) rfl
theorem cat_mk (a b : List Nat) : Str.mk a.toArray ++ Str.mk b.toArray = Str.mk (a ++ b).toArray := by
  show Str.mk (a.toArray ++ b.toArray) = _
  simp
theorem mk_nil : Str.mk #[] = Str.mk ([] : List Nat).toArray := rfl
theorem mk1 (a : Nat) : Str.mk #[a] = Str.mk ([a] : List Nat).toArray := rfl
theorem ofs_3434 : Str.ofString "\"\"" = Str.mk ([34, 34] : List Nat).toArray := by decide +kernel
theorem ofs_a34 : Str.ofString "a\"" = Str.mk ([97, 34] : List Nat).toArray := by decide +kernel
theorem ofs_q : Str.ofString "\"\\\"\"" = Str.mk ([34, 92, 34, 34] : List Nat).toArray := by decide +kernel
section
variable {prog : Program} {w : World} {A : Around} {E : Value → Shared → Prop} {s : Shared} {h₀ : Heap} {L : Addr} {m : Str → Option Value} {news : List (Addr × Obj)} {l : Addr} {n : Nat}
theorem item_names {value slice : Expr} {arr : Array Value} {i : Int} {t : Tok} {v : Value} {Q : Value → Shared → Prop} (N : News h₀ L s.heap news) (hm : (l, listOf arr n) ∈ news) (hi : 0 ≤ i) (hj : i < 2 ^ 63) (hv : arr[i.toNat]? = some v) (h : Q v s)
    (hs : subscripted slice false (.ref l) (.int i t) = operate [.ref l, .int i t] (getItem (.ref l) (.int i t)) := by with_unfolding_all rfl)
    (hg : ∀ r, letTemporaryGo value (.ref l) r = pure () := by intro _; with_unfolding_all rfl) : wpAny (model prog w) A (subscriptTail value slice (.ref l) (.int i t)) Q E s := by
  have hl : s.heap.IsList l arr := ⟨_, (N _ hm).1, rfl, n, rfl⟩
  exact item_list hl hi hj hv h hs hg
end
theorem join_esc (l : List Nat) : Txt.join (Str.ofString "") ((signs ⟨l.toArray⟩).map fun a => Str.mk (#[92] ++ a.cps)) = ⟨(esc l).toArray⟩ := by
  have key : ∀ (l : List Nat) (acc : Array Nat), (((l.map fun n => (Str.mk #[n])).map fun a => Str.mk (#[92] ++ a.cps)).foldl (fun acc p => acc ++ (Str.ofString "").cps ++ p.cps) acc) = acc ++ (esc l).toArray := by
    intro l
    induction l with
    | nil => intro acc; simp [esc]
    | cons c r ih =>
      intro acc
      simp only [List.map_cons, List.foldl_cons, ih]
      rw [ofs_nil]
      simp [esc]
  cases l with
  | nil => rw [ofs_nil]; rfl
  | cons c r =>
    show Str.mk ((((r.map fun n => (Str.mk #[n])).map fun a => Str.mk (#[92] ++ a.cps)).foldl (fun acc p => acc ++ (Str.ofString "").cps ++ p.cps) (#[92] ++ #[c]))) = _
    rw [key]
    simp [esc]
section
variable {prog : Program} {w : World} {A : Around} {E : Value → Shared → Prop} {s₁ s : Shared} {h₀ : Heap} {L : Addr} {m : Str → Option Value} {news : List (Addr × Obj)}
theorem srcC_bs {env : Env} {elt : Expr} {x : Str} {scope : Scope} {Q : Value → Shared → Prop} {y : Str} {t : Tok}
    (hh : A.handled = none) (F : Fr h₀ L s₁.heap m) (N : News h₀ L s₁.heap news)
    (g2 : ∀ C c u s₂ m₂ E', s₂.heap.Ns (compEnv scope C env).locals m₂ → m₂ x = some (.str ⟨#[c]⟩ u) → s₁.toks ≤ s₂.toks → wpAny (model prog w) A (eval elt (compEnv scope C env)) (fun r s₃ => Carried r (.str ⟨#[92] ++ #[c]⟩) ∧ PySem.Keeps s₂ s₃) E' s₂)
    (g3 : ∀ D (ys : List Value) h' tk, Fr h₀ L h' m → News h₀ L h' news → h'.IsList D ys.toArray → CarriedAll ys (((signs y).map fun a => Str.mk (#[92] ++ a.cps)).map PyData.str) → Q (.ref D) { s₁ with heap := h', toks := tk }) (hsz : y.length ≤ sizeLine) :
    wpAny (model prog w) A (pyIter (.str y t)) (CompPost prog w A env scope x [] elt Q) E s₁ := by
  refine wpAny_pyIter_str fun o St W hst => ?_
  have up : ∀ h' : Heap, (∀ b o', b ∉ [s₁.heap.objs.size] → (s₁.heap.push o).get? b = some o' → h'.get? b = some o') → ∀ b o', s₁.heap.get? b = some o' → h'.get? b = some o' :=
    fun h' hk b o' e => hk b o' (fun hm => by rw [List.mem_singleton.mp hm] at e; exact Nat.lt_irrefl _ (Heap.lt_size e)) (Heap.get?_push_of_some _ e)
  refine ⟨ItemKind.str.lift fun _ => true, fun v r => ∃ a, ItemKind.str.is a v ∧ Carried r (.str ⟨#[92] ++ a.cps⟩), s₁.heap.objs.size, [s₁.heap.objs.size], [s₁.heap.objs.size], y.cps.size, SignAt y, St, rfl, W A hh, hsz, hst, ?_, ⟨?_, ?_⟩, ?_⟩
  · intro b hb
    show b < (s₁.heap.push o).objs.size
    rw [Heap.size_push, List.mem_singleton.mp hb]
    exact Nat.lt_succ_self _
  · intro C i v s₃ m₃ E' hP hn hm _ htk
    obtain ⟨c, u, _, rfl⟩ := hP
    have ha : ItemKind.str.is ⟨#[c]⟩ (.str ⟨#[c]⟩ u) := ⟨u, rfl⟩
    rw [ItemKind.lift_is ha]
    exact wpAny_tests_nil ⟨rfl, _, _, rfl, fun _ _ e => e⟩
  · intro C i v s₃ m₃ E' hP hp hn hm _ htk
    obtain ⟨c, u, _, rfl⟩ := hP
    exact wpAny_mono (g2 C c u s₃ m₃ E' hn hm htk) (fun r s₄ h₄ => ⟨⟨⟨#[c]⟩, ⟨u, rfl⟩, h₄.1⟩, h₄.2⟩) fun _ _ e => e
  · intro D h' tk ys vs hnew hlD hplD hlen hP hF hk
    refine g3 D ys.toList h' tk (F.keeps (up h' hk)) (N.grown (up h' hk)) (by rw [Array.toArray_toList]; exact hlD) ?_
    have h9 := (areOf_signs hlen hP).paired (fun _ => true) (fun a => PyData.str ⟨#[92] ++ a.cps⟩) _ hF
    rw [List.filter_eq_self.mpr (fun _ _ => rfl)] at h9
    rw [List.map_map]
    exact h9
theorem join_bs {D : Addr} {items : List Value} {l : List Nat} {t : Tok} {Q : Value → Shared → Prop} (hl : s.heap.IsList D items.toArray) (hc : CarriedAll items (((signs ⟨l.toArray⟩).map fun a => Str.mk (#[92] ++ a.cps)).map PyData.str)) (hn : l.length ≤ 3)
    (h : ∀ t' k, (Str.mk (esc l).toArray).length ≤ 6 → (esc l).length ≤ 6 → Q (.str ⟨(esc l).toArray⟩ t') { s with toks := k }) : wpAny (model prog w) A (call (.builtin "str.join") [.str (Str.ofString "") t, .ref D]) Q E s := by
  refine join_madeW 2 hl hc ?_ (by simp [signs]; omega) (by decide +kernel) fun t' k => ?_
  · intro a ha
    obtain ⟨c, _, rfl⟩ := List.mem_map.mp ha
    show (#[92] ++ #[c]).size ≤ 2
    simp
  · rw [join_esc]
    have h9 : ∀ l : List Nat, (esc l).length = 2 * l.length := by
      intro l
      induction l with
      | nil => rfl
      | cons c r ih =>
        have e : esc (c :: r) = 92 :: c :: esc r := rfl
        rw [e]
        simp only [List.length_cons, ih]
        omega
    have h8 := h9 l
    exact h t' k (show (esc l).toArray.size ≤ 6 by simp; omega) (by omega)
end
set_option maxHeartbeats 8000000 in
theorem u_style {w : World} {A₀ : Around} {base g : Heap} {outer0 : List Env} {L0 L1 a0 : Addr} {mg mb : Str → Option Value} {s : Shared} {Q : Flow → Shared → Prop} {E : Value → Shared → Prop} {p : Program} {loose : List Str} {mean : ExcName → Option Value} {cn0 nm : Str} {cs0 : Scope} {ccd0 : Value} {cl0 : List (Str × Addr)} {gd : Option (List Code)} {sc : Scope} {m : Str → Option Value} {led : List (Addr × Obj)} {S : Stmt} {st sp : Int} {tst tsp : Tok}
    (hP : uAt 0 = some (sc, S)) (B1 : Below A₀ base (envX cn0 cs0 L0 a0 ccd0 cl0 :: outer0) g) (F0 : Fr g L1 s.heap m) (X1 : (Mine.KL w.params).In g) (T1 : Top p loose mean mg mb g) (N0 : News g L1 s.heap (led)) (h1 : m (Str.ofString "style") = some (.int st tst)) (h2 : m (Str.ofString "step") = some (.int sp tsp))
    (hret : ∀ t h' tk', Fr g L1 h' (fun y => if y = Str.ofString "style" then some (.int ((st + sp).fmod 36) t) else m y) → News g L1 h' led → Q .next { s with heap := h', toks := tk' }) :
    wpAny (model PySem.Challenge.rw_st0010_01.row.prog w) ((ktrTop 500 500 gd cn0 cs0 L0 a0 ccd0 cl0 outer0).deeper (envOf nm sc L1 106 (.ref 105))) (exec S (envOf nm sc L1 106 (.ref 105))) Q E s := by
  obtain ⟨h0, g0, r9, k0, os0⟩ := s
  dsimp only at F0 N0 hret ⊢
  conv at hP => lhs; whnf
  injection hP with hP
  injection hP with hP1 hP2
  subst hP1 hP2
  revert X1; k_fill; intro X1
  repeat' ((fail_if_success (with_reducible show wpAny _ _ (newList _) _ _ _)); (fail_if_success (with_reducible show wpAny _ _ (pyIter (Value.ref _)) _ _ _)); (fail_if_success (with_reducible show wpAny _ _ (exec (Stmt.For _ _ _ _ _) _) _ _ _)); (fail_if_success (with_reducible show LeaveK h₀ _ _ _ _ _ _)); first | (k_unfold; (try dsimp only)) | (k_end; wrow_close) | (first | ((with_reducible show wpAny _ _ (eval (PySem.Expr.Name _ _) _) _ _ _); with_reducible ((k_here; k_dflt (refine' nameX_L ?F ?v ?_ ?a ?b; (case F => k_asm); (case a => rfl); (case b => rfl); (case v => with_reducible assumption); k_whole)))) | ((with_reducible show wpAny _ _ (call (Value.builtin "str.join") _) _ _ _); with_reducible (((with_reducible show wpAny _ _ (call (Value.builtin "str.join") [Value.str _ _, Value.ref _]) _ _ _); (with_reducible rename CarriedAll _ _ => hc'); refine' join_bs ?hl ?hc ?hn ?_; (case hl => assumption); (case hc => exact hc'); (case hn => omega); intro _ _ _ _))) | (with_reducible (((with_reducible show wpAny _ _ (pyIter (Value.str _ _)) (CompPost _ _ _ _ _ _ _ _ _) _ _); (rename Fr _ _ _ _ => F'); (rename News _ _ _ _ => N'); refine' srcC_bs ?hh ?F ?N ?g2 ?g3 ?hl; (case hh => with_unfolding_all rfl); (case F => with_unfolding_all exact F'); (case N => with_unfolding_all exact N'); (case hl => size_fits); (case' g2 => (intros; (try (with_reducible refine wpAny_leafK ?_)))); (case' g3 => intros)))) | (with_reducible ((k_here; (with_reducible show wpAny _ _ (subscriptTail _ _ (Value.ref _) (Value.int _ _)) _ _ _); k_dflt (refine' item_names ?N ?hm ?hi ?hj ?hv ?_; (case N => k_asm); (case hm => k_mem); (case hv => with_reducible assumption); (case hi => omega); (case hj => omega))))) | walk1) | (dsimp only; (first | ((with_reducible show wpAny _ _ (eval (PySem.Expr.Name _ _) _) _ _ _); with_reducible ((k_here; k_dflt (refine' nameX_L ?F ?v ?_ ?a ?b; (case F => k_asm); (case a => rfl); (case b => rfl); (case v => with_reducible assumption); k_whole)))) | ((with_reducible show wpAny _ _ (call (Value.builtin "str.join") _) _ _ _); with_reducible (((with_reducible show wpAny _ _ (call (Value.builtin "str.join") [Value.str _ _, Value.ref _]) _ _ _); (with_reducible rename CarriedAll _ _ => hc'); refine' join_bs ?hl ?hc ?hn ?_; (case hl => assumption); (case hc => exact hc'); (case hn => omega); intro _ _ _ _))) | (with_reducible (((with_reducible show wpAny _ _ (pyIter (Value.str _ _)) (CompPost _ _ _ _ _ _ _ _ _) _ _); (rename Fr _ _ _ _ => F'); (rename News _ _ _ _ => N'); refine' srcC_bs ?hh ?F ?N ?g2 ?g3 ?hl; (case hh => with_unfolding_all rfl); (case F => with_unfolding_all exact F'); (case N => with_unfolding_all exact N'); (case hl => size_fits); (case' g2 => (intros; (try (with_reducible refine wpAny_leafK ?_)))); (case' g3 => intros)))) | (with_reducible ((k_here; (with_reducible show wpAny _ _ (subscriptTail _ _ (Value.ref _) (Value.int _ _)) _ _ _); k_dflt (refine' item_names ?N ?hm ?hi ?hj ?hv ?_; (case N => k_asm); (case hm => k_mem); (case hv => with_reducible assumption); (case hi => omega); (case hj => omega))))) | walk1)) | (leave1; walk_say "STEP leave1"; try dsimp only) | fail "no step")
  exact hret _ _ _ (by assumption) (by assumption)
set_option maxHeartbeats 8000000 in
theorem u_white {w : World} {A₀ : Around} {base g : Heap} {outer0 : List Env} {L0 L1 a0 : Addr} {mg mb : Str → Option Value} {s : Shared} {Q : Flow → Shared → Prop} {E : Value → Shared → Prop} {p : Program} {loose : List Str} {mean : ExcName → Option Value} {cn0 nm : Str} {cs0 : Scope} {ccd0 : Value} {cl0 : List (Str × Addr)} {gd : Option (List Code)} {sc : Scope} {m : Str → Option Value} {led : List (Addr × Obj)} {S : Stmt} {st : Int} {tst : Tok}
    (hP : uAt 1 = some (sc, S)) (B1 : Below A₀ base (envX cn0 cs0 L0 a0 ccd0 cl0 :: outer0) g) (F0 : Fr g L1 s.heap m) (X1 : (Mine.KL w.params).In g) (T1 : Top p loose mean mg mb g) (N0 : News g L1 s.heap (led)) (h1 : m (Str.ofString "style") = some (.int st tst))
    (hret : ∀ t h' tk', Fr g L1 h' (fun y => if y = Str.ofString "white" then some (.str ⟨[wh (st.fmod 4)].toArray⟩ t) else m y) → News g L1 h' led → Q .next { s with heap := h', toks := tk' }) :
    wpAny (model PySem.Challenge.rw_st0010_01.row.prog w) ((ktrTop 500 500 gd cn0 cs0 L0 a0 ccd0 cl0 outer0).deeper (envOf nm sc L1 106 (.ref 105))) (exec S (envOf nm sc L1 106 (.ref 105))) Q E s := by
  obtain ⟨h0, g0, r9, k0, os0⟩ := s
  dsimp only at F0 N0 hret ⊢
  conv at hP => lhs; whnf
  injection hP with hP
  injection hP with hP1 hP2
  subst hP1 hP2
  revert X1; k_fill; intro X1
  rw [← mk1, ← item_wh] at hret
  repeat' ((fail_if_success (with_reducible show wpAny _ _ (newList _) _ _ _)); (fail_if_success (with_reducible show wpAny _ _ (pyIter (Value.ref _)) _ _ _)); (fail_if_success (with_reducible show wpAny _ _ (exec (Stmt.For _ _ _ _ _) _) _ _ _)); (fail_if_success (with_reducible show LeaveK h₀ _ _ _ _ _ _)); first | (k_unfold; (try dsimp only)) | (k_end; wrow_close) | (first | ((with_reducible show wpAny _ _ (eval (PySem.Expr.Name _ _) _) _ _ _); with_reducible ((k_here; k_dflt (refine' nameX_L ?F ?v ?_ ?a ?b; (case F => k_asm); (case a => rfl); (case b => rfl); (case v => with_reducible assumption); k_whole)))) | ((with_reducible show wpAny _ _ (call (Value.builtin "str.join") _) _ _ _); with_reducible (((with_reducible show wpAny _ _ (call (Value.builtin "str.join") [Value.str _ _, Value.ref _]) _ _ _); (with_reducible rename CarriedAll _ _ => hc'); refine' join_bs ?hl ?hc ?hn ?_; (case hl => assumption); (case hc => exact hc'); (case hn => omega); intro _ _ _ _))) | (with_reducible (((with_reducible show wpAny _ _ (pyIter (Value.str _ _)) (CompPost _ _ _ _ _ _ _ _ _) _ _); (rename Fr _ _ _ _ => F'); (rename News _ _ _ _ => N'); refine' srcC_bs ?hh ?F ?N ?g2 ?g3 ?hl; (case hh => with_unfolding_all rfl); (case F => with_unfolding_all exact F'); (case N => with_unfolding_all exact N'); (case hl => size_fits); (case' g2 => (intros; (try (with_reducible refine wpAny_leafK ?_)))); (case' g3 => intros)))) | (with_reducible ((k_here; (with_reducible show wpAny _ _ (subscriptTail _ _ (Value.ref _) (Value.int _ _)) _ _ _); k_dflt (refine' item_names ?N ?hm ?hi ?hj ?hv ?_; (case N => k_asm); (case hm => k_mem); (case hv => with_reducible assumption); (case hi => omega); (case hj => omega))))) | walk1) | (dsimp only; (first | ((with_reducible show wpAny _ _ (eval (PySem.Expr.Name _ _) _) _ _ _); with_reducible ((k_here; k_dflt (refine' nameX_L ?F ?v ?_ ?a ?b; (case F => k_asm); (case a => rfl); (case b => rfl); (case v => with_reducible assumption); k_whole)))) | ((with_reducible show wpAny _ _ (call (Value.builtin "str.join") _) _ _ _); with_reducible (((with_reducible show wpAny _ _ (call (Value.builtin "str.join") [Value.str _ _, Value.ref _]) _ _ _); (with_reducible rename CarriedAll _ _ => hc'); refine' join_bs ?hl ?hc ?hn ?_; (case hl => assumption); (case hc => exact hc'); (case hn => omega); intro _ _ _ _))) | (with_reducible (((with_reducible show wpAny _ _ (pyIter (Value.str _ _)) (CompPost _ _ _ _ _ _ _ _ _) _ _); (rename Fr _ _ _ _ => F'); (rename News _ _ _ _ => N'); refine' srcC_bs ?hh ?F ?N ?g2 ?g3 ?hl; (case hh => with_unfolding_all rfl); (case F => with_unfolding_all exact F'); (case N => with_unfolding_all exact N'); (case hl => size_fits); (case' g2 => (intros; (try (with_reducible refine wpAny_leafK ?_)))); (case' g3 => intros)))) | (with_reducible ((k_here; (with_reducible show wpAny _ _ (subscriptTail _ _ (Value.ref _) (Value.int _ _)) _ _ _); k_dflt (refine' item_names ?N ?hm ?hi ?hj ?hv ?_; (case N => k_asm); (case hm => k_mem); (case hv => with_reducible assumption); (case hi => omega); (case hj => omega))))) | walk1)) | (leave1; walk_say "STEP leave1"; try dsimp only) | fail "no step")
  exact hret _ _ _ (by assumption) (by assumption)
set_option maxHeartbeats 8000000 in
theorem u_zero {w : World} {A₀ : Around} {base g : Heap} {outer0 : List Env} {L0 L1 a0 : Addr} {mg mb : Str → Option Value} {s : Shared} {Q : Flow → Shared → Prop} {E : Value → Shared → Prop} {p : Program} {loose : List Str} {mean : ExcName → Option Value} {cn0 nm : Str} {cs0 : Scope} {ccd0 : Value} {cl0 : List (Str × Addr)} {gd : Option (List Code)} {sc : Scope} {m : Str → Option Value} {led : List (Addr × Obj)} {S : Stmt} {c0 : Nat} {tn tw : Tok}
    (hP : uAt 2 = some (sc, S)) (B1 : Below A₀ base (envX cn0 cs0 L0 a0 ccd0 cl0 :: outer0) g) (F0 : Fr g L1 s.heap m) (X1 : (Mine.KL w.params).In g) (T1 : Top p loose mean mg mb g) (N0 : News g L1 s.heap (led)) (h1 : m (Str.ofString "number") = some (.int 0 tn)) (h2 : m (Str.ofString "white") = some (.str ⟨[c0].toArray⟩ tw))
    (hret : ∀ f t0 t1 t2 t3 t4 h' tk', Fr g L1 h' (fun y => if y = Str.ofString "forms" then some (.ref f) else m y) → News g L1 h' ((f, listOf #[.str ⟨[34, 34].toArray⟩ t0, .str ⟨[34, c0, 34].toArray⟩ t1, .str ⟨[34, 92, 34, 34].toArray⟩ t2, .str ⟨[97, 34, c0].toArray⟩ t3, .str ⟨[92, c0, c0].toArray⟩ t4] 0) :: led) → Q .next { s with heap := h', toks := tk' }) :
    wpAny (model PySem.Challenge.rw_st0010_01.row.prog w) ((ktrTop 500 500 gd cn0 cs0 L0 a0 ccd0 cl0 outer0).deeper (envOf nm sc L1 106 (.ref 105))) (exec S (envOf nm sc L1 106 (.ref 105))) Q E s := by
  obtain ⟨h0, g0, r9, k0, os0⟩ := s
  dsimp only at F0 N0 hret ⊢
  conv at hP => lhs; whnf
  injection hP with hP
  injection hP with hP1 hP2
  subst hP1 hP2
  revert X1; k_fill; intro X1
  repeat' ((fail_if_success (with_reducible show wpAny _ _ (newList _) _ _ _)); (fail_if_success (with_reducible show wpAny _ _ (pyIter (Value.ref _)) _ _ _)); (fail_if_success (with_reducible show wpAny _ _ (exec (Stmt.For _ _ _ _ _) _) _ _ _)); (fail_if_success (with_reducible show LeaveK h₀ _ _ _ _ _ _)); first | (k_unfold; (try dsimp only)) | (k_end; wrow_close) | (first | ((with_reducible show wpAny _ _ (eval (PySem.Expr.Name _ _) _) _ _ _); with_reducible ((k_here; k_dflt (refine' nameX_L ?F ?v ?_ ?a ?b; (case F => k_asm); (case a => rfl); (case b => rfl); (case v => with_reducible assumption); k_whole)))) | ((with_reducible show wpAny _ _ (call (Value.builtin "str.join") _) _ _ _); with_reducible (((with_reducible show wpAny _ _ (call (Value.builtin "str.join") [Value.str _ _, Value.ref _]) _ _ _); (with_reducible rename CarriedAll _ _ => hc'); refine' join_bs ?hl ?hc ?hn ?_; (case hl => assumption); (case hc => exact hc'); (case hn => omega); intro _ _ _ _))) | (with_reducible (((with_reducible show wpAny _ _ (pyIter (Value.str _ _)) (CompPost _ _ _ _ _ _ _ _ _) _ _); (rename Fr _ _ _ _ => F'); (rename News _ _ _ _ => N'); refine' srcC_bs ?hh ?F ?N ?g2 ?g3 ?hl; (case hh => with_unfolding_all rfl); (case F => with_unfolding_all exact F'); (case N => with_unfolding_all exact N'); (case hl => size_fits); (case' g2 => (intros; (try (with_reducible refine wpAny_leafK ?_)))); (case' g3 => intros)))) | (with_reducible ((k_here; (with_reducible show wpAny _ _ (subscriptTail _ _ (Value.ref _) (Value.int _ _)) _ _ _); k_dflt (refine' item_names ?N ?hm ?hi ?hj ?hv ?_; (case N => k_asm); (case hm => k_mem); (case hv => with_reducible assumption); (case hi => omega); (case hj => omega))))) | walk1) | (dsimp only; (first | ((with_reducible show wpAny _ _ (eval (PySem.Expr.Name _ _) _) _ _ _); with_reducible ((k_here; k_dflt (refine' nameX_L ?F ?v ?_ ?a ?b; (case F => k_asm); (case a => rfl); (case b => rfl); (case v => with_reducible assumption); k_whole)))) | ((with_reducible show wpAny _ _ (call (Value.builtin "str.join") _) _ _ _); with_reducible (((with_reducible show wpAny _ _ (call (Value.builtin "str.join") [Value.str _ _, Value.ref _]) _ _ _); (with_reducible rename CarriedAll _ _ => hc'); refine' join_bs ?hl ?hc ?hn ?_; (case hl => assumption); (case hc => exact hc'); (case hn => omega); intro _ _ _ _))) | (with_reducible (((with_reducible show wpAny _ _ (pyIter (Value.str _ _)) (CompPost _ _ _ _ _ _ _ _ _) _ _); (rename Fr _ _ _ _ => F'); (rename News _ _ _ _ => N'); refine' srcC_bs ?hh ?F ?N ?g2 ?g3 ?hl; (case hh => with_unfolding_all rfl); (case F => with_unfolding_all exact F'); (case N => with_unfolding_all exact N'); (case hl => size_fits); (case' g2 => (intros; (try (with_reducible refine wpAny_leafK ?_)))); (case' g3 => intros)))) | (with_reducible ((k_here; (with_reducible show wpAny _ _ (subscriptTail _ _ (Value.ref _) (Value.int _ _)) _ _ _); k_dflt (refine' item_names ?N ?hm ?hi ?hj ?hv ?_; (case N => k_asm); (case hm => k_mem); (case hv => with_reducible assumption); (case hi => omega); (case hj => omega))))) | walk1)) | (leave1; walk_say "STEP leave1"; try dsimp only) | fail "no step")
  refine newList_K2 F0 N0 (fun f h9 F2 N2 _ _ => ?_) (by size_fits)
  clear F0 N0
  simp only [ofs_34, ofs_92, ofs_3434, ofs_a34, ofs_q, mk1, cat_mk, List.cons_append, List.nil_append, List.append_assoc] at N2
  repeat' ((fail_if_success (with_reducible show wpAny _ _ (newList _) _ _ _)); (fail_if_success (with_reducible show wpAny _ _ (pyIter (Value.ref _)) _ _ _)); (fail_if_success (with_reducible show wpAny _ _ (exec (Stmt.For _ _ _ _ _) _) _ _ _)); (fail_if_success (with_reducible show LeaveK h₀ _ _ _ _ _ _)); first | (k_unfold; (try dsimp only)) | (k_end; wrow_close) | (first | ((with_reducible show wpAny _ _ (eval (PySem.Expr.Name _ _) _) _ _ _); with_reducible ((k_here; k_dflt (refine' nameX_L ?F ?v ?_ ?a ?b; (case F => k_asm); (case a => rfl); (case b => rfl); (case v => with_reducible assumption); k_whole)))) | ((with_reducible show wpAny _ _ (call (Value.builtin "str.join") _) _ _ _); with_reducible (((with_reducible show wpAny _ _ (call (Value.builtin "str.join") [Value.str _ _, Value.ref _]) _ _ _); (with_reducible rename CarriedAll _ _ => hc'); refine' join_bs ?hl ?hc ?hn ?_; (case hl => assumption); (case hc => exact hc'); (case hn => omega); intro _ _ _ _))) | (with_reducible (((with_reducible show wpAny _ _ (pyIter (Value.str _ _)) (CompPost _ _ _ _ _ _ _ _ _) _ _); (rename Fr _ _ _ _ => F'); (rename News _ _ _ _ => N'); refine' srcC_bs ?hh ?F ?N ?g2 ?g3 ?hl; (case hh => with_unfolding_all rfl); (case F => with_unfolding_all exact F'); (case N => with_unfolding_all exact N'); (case hl => size_fits); (case' g2 => (intros; (try (with_reducible refine wpAny_leafK ?_)))); (case' g3 => intros)))) | (with_reducible ((k_here; (with_reducible show wpAny _ _ (subscriptTail _ _ (Value.ref _) (Value.int _ _)) _ _ _); k_dflt (refine' item_names ?N ?hm ?hi ?hj ?hv ?_; (case N => k_asm); (case hm => k_mem); (case hv => with_reducible assumption); (case hi => omega); (case hj => omega))))) | walk1) | (dsimp only; (first | ((with_reducible show wpAny _ _ (eval (PySem.Expr.Name _ _) _) _ _ _); with_reducible ((k_here; k_dflt (refine' nameX_L ?F ?v ?_ ?a ?b; (case F => k_asm); (case a => rfl); (case b => rfl); (case v => with_reducible assumption); k_whole)))) | ((with_reducible show wpAny _ _ (call (Value.builtin "str.join") _) _ _ _); with_reducible (((with_reducible show wpAny _ _ (call (Value.builtin "str.join") [Value.str _ _, Value.ref _]) _ _ _); (with_reducible rename CarriedAll _ _ => hc'); refine' join_bs ?hl ?hc ?hn ?_; (case hl => assumption); (case hc => exact hc'); (case hn => omega); intro _ _ _ _))) | (with_reducible (((with_reducible show wpAny _ _ (pyIter (Value.str _ _)) (CompPost _ _ _ _ _ _ _ _ _) _ _); (rename Fr _ _ _ _ => F'); (rename News _ _ _ _ => N'); refine' srcC_bs ?hh ?F ?N ?g2 ?g3 ?hl; (case hh => with_unfolding_all rfl); (case F => with_unfolding_all exact F'); (case N => with_unfolding_all exact N'); (case hl => size_fits); (case' g2 => (intros; (try (with_reducible refine wpAny_leafK ?_)))); (case' g3 => intros)))) | (with_reducible ((k_here; (with_reducible show wpAny _ _ (subscriptTail _ _ (Value.ref _) (Value.int _ _)) _ _ _); k_dflt (refine' item_names ?N ?hm ?hi ?hj ?hv ?_; (case N => k_asm); (case hm => k_mem); (case hv => with_reducible assumption); (case hi => omega); (case hj => omega))))) | walk1)) | (leave1; walk_say "STEP leave1"; try dsimp only) | fail "no step")
  rename Fr g _ _ _ => F9
  rename News g _ _ _ => N9
  exact hret f _ _ _ _ _ _ _ F9 N9
set_option maxHeartbeats 8000000 in
theorem u_name {w : World} {A₀ : Around} {base g : Heap} {outer0 : List Env} {L0 L1 a0 : Addr} {mg mb : Str → Option Value} {s : Shared} {Q : Flow → Shared → Prop} {E : Value → Shared → Prop} {p : Program} {loose : List Str} {mean : ExcName → Option Value} {cn0 nm : Str} {cs0 : Scope} {ccd0 : Value} {cl0 : List (Str × Addr)} {gd : Option (List Code)} {sc : Scope} {m : Str → Option Value} {led : List (Addr × Obj)} {S : Stmt} {c0 : Nat} {n : Int} {tn tw tnm : Tok} {na : Addr} {nv : Array Value} {nn : Nat} {nmv : List Nat}
    (hP : uAt 2 = some (sc, S)) (B1 : Below A₀ base (envX cn0 cs0 L0 a0 ccd0 cl0 :: outer0) g) (F0 : Fr g L1 s.heap m) (X1 : (Mine.KL w.params).In g) (T1 : Top p loose mean mg mb g) (N0 : News g L1 s.heap ((na, listOf nv nn) :: led)) (h1 : m (Str.ofString "number") = some (.int n tn)) (h2 : m (Str.ofString "white") = some (.str ⟨[c0].toArray⟩ tw)) (h3 : m (Str.ofString "names") = some (.ref na)) (hn1 : 7 ≤ n) (hn2 : n ≤ 54) (hnm : nv[(n - 7).toNat]? = some (.str ⟨nmv.toArray⟩ tnm)) (hl1 : 1 ≤ nmv.length) (hl2 : nmv.length ≤ 3)
    (hret : ∀ f t0 t1 t2 t3 m1 h' tk', m1 (Str.ofString "forms") = some (.ref f) → (∀ y, y ≠ Str.ofString "name" → y ≠ Str.ofString "slow" → y ≠ Str.ofString "forms" → m1 y = m y) → Fr g L1 h' m1 → News g L1 h' ((f, listOf #[.str ⟨(nmv ++ [c0]).toArray⟩ t0, .str ⟨(esc nmv ++ [c0]).toArray⟩ t1, .str ⟨([c0, 34] ++ nmv ++ [34]).toArray⟩ t2, .str ⟨([c0, 34] ++ esc nmv ++ [34]).toArray⟩ t3] 0) :: (na, listOf nv nn) :: led) → Q .next { s with heap := h', toks := tk' }) :
    wpAny (model PySem.Challenge.rw_st0010_01.row.prog w) ((ktrTop 500 500 gd cn0 cs0 L0 a0 ccd0 cl0 outer0).deeper (envOf nm sc L1 106 (.ref 105))) (exec S (envOf nm sc L1 106 (.ref 105))) Q E s := by
  obtain ⟨h0, g0, r9, k0, os0⟩ := s
  dsimp only at F0 N0 hret ⊢
  conv at hP => lhs; whnf
  injection hP with hP
  injection hP with hP1 hP2
  subst hP1 hP2
  revert X1; k_fill; intro X1
  repeat' ((fail_if_success (with_reducible show wpAny _ _ (newList (_ :: _)) _ _ _)); (fail_if_success (with_reducible show LeaveK h₀ _ _ _ _ _ _)); (fail_if_success (with_reducible show @Eq Flow _ _ ∧ _)); first | (rename n = 0 => h0; omega) | (k_unfold; (try dsimp only)) | (k_end; wrow_close) | (first | ((with_reducible show wpAny _ _ (eval (PySem.Expr.Name _ _) _) _ _ _); with_reducible ((k_here; k_dflt (refine' nameX_L ?F ?v ?_ ?a ?b; (case F => k_asm); (case a => rfl); (case b => rfl); (case v => first | with_reducible assumption | rfl | assumption); k_whole)))) | ((with_reducible show wpAny _ _ (eval (PySem.Expr.Name _ _) _) _ _ _); with_reducible ((k_here; k_dflt (refine' nameX_L ?F ?v ?_ ?a ?b; (case F => k_asm); (case a => rfl); (case b => rfl); (case v => with_reducible assumption); k_whole)))) | ((with_reducible show wpAny _ _ (call (Value.builtin "str.join") _) _ _ _); with_reducible (((with_reducible show wpAny _ _ (call (Value.builtin "str.join") [Value.str _ _, Value.ref _]) _ _ _); (with_reducible rename CarriedAll _ _ => hc'); refine' join_bs ?hl ?hc ?hn ?_; (case hl => assumption); (case hc => exact hc'); (case hn => omega); intro _ _ _ _))) | (with_reducible (((with_reducible show wpAny _ _ (pyIter (Value.str _ _)) (CompPost _ _ _ _ _ _ _ _ _) _ _); (rename Fr _ _ _ _ => F'); (rename News _ _ _ _ => N'); refine' srcC_bs ?hh ?F ?N ?g2 ?g3 ?hl; (case hh => with_unfolding_all rfl); (case F => with_unfolding_all exact F'); (case N => with_unfolding_all exact N'); (case hl => size_fits); (case' g2 => (intros; (try (with_reducible refine wpAny_leafK ?_)))); (case' g3 => intros)))) | (with_reducible ((k_here; (with_reducible show wpAny _ _ (subscriptTail _ _ (Value.ref _) (Value.int _ _)) _ _ _); k_dflt (refine' item_names ?N ?hm ?hi ?hj ?hv ?_; (case N => k_asm); (case hm => k_mem); (case hv => with_reducible assumption); (case hi => omega); (case hj => omega))))) | walk1) | (dsimp only; (first | ((with_reducible show wpAny _ _ (eval (PySem.Expr.Name _ _) _) _ _ _); with_reducible ((k_here; k_dflt (refine' nameX_L ?F ?v ?_ ?a ?b; (case F => k_asm); (case a => rfl); (case b => rfl); (case v => first | with_reducible assumption | rfl | assumption); k_whole)))) | ((with_reducible show wpAny _ _ (eval (PySem.Expr.Name _ _) _) _ _ _); with_reducible ((k_here; k_dflt (refine' nameX_L ?F ?v ?_ ?a ?b; (case F => k_asm); (case a => rfl); (case b => rfl); (case v => with_reducible assumption); k_whole)))) | ((with_reducible show wpAny _ _ (call (Value.builtin "str.join") _) _ _ _); with_reducible (((with_reducible show wpAny _ _ (call (Value.builtin "str.join") [Value.str _ _, Value.ref _]) _ _ _); (with_reducible rename CarriedAll _ _ => hc'); refine' join_bs ?hl ?hc ?hn ?_; (case hl => assumption); (case hc => exact hc'); (case hn => omega); intro _ _ _ _))) | (with_reducible (((with_reducible show wpAny _ _ (pyIter (Value.str _ _)) (CompPost _ _ _ _ _ _ _ _ _) _ _); (rename Fr _ _ _ _ => F'); (rename News _ _ _ _ => N'); refine' srcC_bs ?hh ?F ?N ?g2 ?g3 ?hl; (case hh => with_unfolding_all rfl); (case F => with_unfolding_all exact F'); (case N => with_unfolding_all exact N'); (case hl => size_fits); (case' g2 => (intros; (try (with_reducible refine wpAny_leafK ?_)))); (case' g3 => intros)))) | (with_reducible ((k_here; (with_reducible show wpAny _ _ (subscriptTail _ _ (Value.ref _) (Value.int _ _)) _ _ _); k_dflt (refine' item_names ?N ?hm ?hi ?hj ?hv ?_; (case N => k_asm); (case hm => k_mem); (case hv => with_reducible assumption); (case hi => omega); (case hj => omega))))) | walk1)) | (leave1; walk_say "STEP leave1"; try dsimp only) | fail "no step")
  rename Fr g _ _ _ => F8
  rename News g _ _ _ => N8
  refine newList_K2 F8 N8 (fun f h9 F2 N2 _ _ => ?_) (by size_fits)
  (try clear F0 N0)
  clear F8 N8
  simp only [ofs_34, ofs_92, mk1, cat_mk] at N2
  repeat' ((fail_if_success (with_reducible show wpAny _ _ (newList _) _ _ _)); (fail_if_success (with_reducible show wpAny _ _ (pyIter (Value.ref _)) _ _ _)); (fail_if_success (with_reducible show wpAny _ _ (exec (Stmt.For _ _ _ _ _) _) _ _ _)); (fail_if_success (with_reducible show LeaveK h₀ _ _ _ _ _ _)); first | (k_unfold; (try dsimp only)) | (k_end; wrow_close) | (first | ((with_reducible show wpAny _ _ (eval (PySem.Expr.Name _ _) _) _ _ _); with_reducible ((k_here; k_dflt (refine' nameX_L ?F ?v ?_ ?a ?b; (case F => k_asm); (case a => rfl); (case b => rfl); (case v => first | with_reducible assumption | rfl | assumption); k_whole)))) | ((with_reducible show wpAny _ _ (eval (PySem.Expr.Name _ _) _) _ _ _); with_reducible ((k_here; k_dflt (refine' nameX_L ?F ?v ?_ ?a ?b; (case F => k_asm); (case a => rfl); (case b => rfl); (case v => with_reducible assumption); k_whole)))) | ((with_reducible show wpAny _ _ (call (Value.builtin "str.join") _) _ _ _); with_reducible (((with_reducible show wpAny _ _ (call (Value.builtin "str.join") [Value.str _ _, Value.ref _]) _ _ _); (with_reducible rename CarriedAll _ _ => hc'); refine' join_bs ?hl ?hc ?hn ?_; (case hl => assumption); (case hc => exact hc'); (case hn => omega); intro _ _ _ _))) | (with_reducible (((with_reducible show wpAny _ _ (pyIter (Value.str _ _)) (CompPost _ _ _ _ _ _ _ _ _) _ _); (rename Fr _ _ _ _ => F'); (rename News _ _ _ _ => N'); refine' srcC_bs ?hh ?F ?N ?g2 ?g3 ?hl; (case hh => with_unfolding_all rfl); (case F => with_unfolding_all exact F'); (case N => with_unfolding_all exact N'); (case hl => size_fits); (case' g2 => (intros; (try (with_reducible refine wpAny_leafK ?_)))); (case' g3 => intros)))) | (with_reducible ((k_here; (with_reducible show wpAny _ _ (subscriptTail _ _ (Value.ref _) (Value.int _ _)) _ _ _); k_dflt (refine' item_names ?N ?hm ?hi ?hj ?hv ?_; (case N => k_asm); (case hm => k_mem); (case hv => with_reducible assumption); (case hi => omega); (case hj => omega))))) | walk1) | (dsimp only; (first | ((with_reducible show wpAny _ _ (eval (PySem.Expr.Name _ _) _) _ _ _); with_reducible ((k_here; k_dflt (refine' nameX_L ?F ?v ?_ ?a ?b; (case F => k_asm); (case a => rfl); (case b => rfl); (case v => first | with_reducible assumption | rfl | assumption); k_whole)))) | ((with_reducible show wpAny _ _ (eval (PySem.Expr.Name _ _) _) _ _ _); with_reducible ((k_here; k_dflt (refine' nameX_L ?F ?v ?_ ?a ?b; (case F => k_asm); (case a => rfl); (case b => rfl); (case v => with_reducible assumption); k_whole)))) | ((with_reducible show wpAny _ _ (call (Value.builtin "str.join") _) _ _ _); with_reducible (((with_reducible show wpAny _ _ (call (Value.builtin "str.join") [Value.str _ _, Value.ref _]) _ _ _); (with_reducible rename CarriedAll _ _ => hc'); refine' join_bs ?hl ?hc ?hn ?_; (case hl => assumption); (case hc => exact hc'); (case hn => omega); intro _ _ _ _))) | (with_reducible (((with_reducible show wpAny _ _ (pyIter (Value.str _ _)) (CompPost _ _ _ _ _ _ _ _ _) _ _); (rename Fr _ _ _ _ => F'); (rename News _ _ _ _ => N'); refine' srcC_bs ?hh ?F ?N ?g2 ?g3 ?hl; (case hh => with_unfolding_all rfl); (case F => with_unfolding_all exact F'); (case N => with_unfolding_all exact N'); (case hl => size_fits); (case' g2 => (intros; (try (with_reducible refine wpAny_leafK ?_)))); (case' g3 => intros)))) | (with_reducible ((k_here; (with_reducible show wpAny _ _ (subscriptTail _ _ (Value.ref _) (Value.int _ _)) _ _ _); k_dflt (refine' item_names ?N ?hm ?hi ?hj ?hv ?_; (case N => k_asm); (case hm => k_mem); (case hv => with_reducible assumption); (case hi => omega); (case hj => omega))))) | walk1)) | (leave1; walk_say "STEP leave1"; try dsimp only) | fail "no step")
  rename Fr g _ _ _ => F9
  rename News g _ _ _ => N9
  exact hret f _ _ _ _ _ _ _ (if_pos rfl) (fun y q1 q2 q3 => (if_neg q3).trans ((if_neg q2).trans (if_neg q1))) F9 N9
noncomputable def pick4 {α : Type} (k : Int) (a b c d : α) : α := if k = 0 then a else if k = 1 then b else if k = 2 then c else d
noncomputable def pick5 {α : Type} (k : Int) (a b c d e : α) : α := if k = 0 then a else if k = 1 then b else if k = 2 then c else if k = 3 then d else e
section
variable {prog : Program} {w : World} {A : Around} {E : Value → Shared → Prop} {s : Shared} {h₀ : Heap} {L l : Addr} {news : List (Addr × Obj)}
theorem pick_item4 {value slice : Expr} {i : Int} {u : Tok} {n : Nat} {f0 f1 f2 f3 : List Nat} {t0 t1 t2 t3 : Tok} {Q : Value → Shared → Prop} (N : News h₀ L s.heap news) (hm : (l, listOf #[.str ⟨(f0).toArray⟩ t0, .str ⟨(f1).toArray⟩ t1, .str ⟨(f2).toArray⟩ t2, .str ⟨(f3).toArray⟩ t3] n) ∈ news) (h : ∀ t, Q (.str ⟨(pick4 (i.fmod 4) f0 f1 f2 f3).toArray⟩ t) s)
    (hs : ∀ k, subscripted slice false (.ref l) (.int k u) = operate [.ref l, .int k u] (getItem (.ref l) (.int k u)) := by intro _; with_unfolding_all rfl) (hg : ∀ r, letTemporaryGo value (.ref l) r = pure () := by intro _; with_unfolding_all rfl) :
    wpAny (model prog w) A (subscriptTail value slice (.ref l) (.int (i.fmod 4) u)) Q E s := by
  have h1 := Int.fmod_nonneg_of_pos i (show (0 : Int) < 4 by decide)
  have h2 := Int.fmod_lt_of_pos i (show (0 : Int) < 4 by decide)
  generalize i.fmod 4 = j at h h1 h2
  have hl : s.heap.IsList l #[.str ⟨(f0).toArray⟩ t0, .str ⟨(f1).toArray⟩ t1, .str ⟨(f2).toArray⟩ t2, .str ⟨(f3).toArray⟩ t3] := ⟨_, (N _ hm).1, rfl, n, rfl⟩
  have h3 : j = 0 ∨ j = 1 ∨ j = 2 ∨ j = 3 := by omega
  rcases h3 with rfl | rfl | rfl | rfl
  · exact item_list hl (by decide) (by decide) rfl (h t0) (hs _) hg
  · exact item_list hl (by decide) (by decide) rfl (h t1) (hs _) hg
  · exact item_list hl (by decide) (by decide) rfl (h t2) (hs _) hg
  · exact item_list hl (by decide) (by decide) rfl (h t3) (hs _) hg
theorem pick_item5 {value slice : Expr} {i : Int} {u : Tok} {n : Nat} {f0 f1 f2 f3 f4 : List Nat} {t0 t1 t2 t3 t4 : Tok} {Q : Value → Shared → Prop} (N : News h₀ L s.heap news) (hm : (l, listOf #[.str ⟨(f0).toArray⟩ t0, .str ⟨(f1).toArray⟩ t1, .str ⟨(f2).toArray⟩ t2, .str ⟨(f3).toArray⟩ t3, .str ⟨(f4).toArray⟩ t4] n) ∈ news) (h : ∀ t, Q (.str ⟨(pick5 (i.fmod 5) f0 f1 f2 f3 f4).toArray⟩ t) s)
    (hs : ∀ k, subscripted slice false (.ref l) (.int k u) = operate [.ref l, .int k u] (getItem (.ref l) (.int k u)) := by intro _; with_unfolding_all rfl) (hg : ∀ r, letTemporaryGo value (.ref l) r = pure () := by intro _; with_unfolding_all rfl) :
    wpAny (model prog w) A (subscriptTail value slice (.ref l) (.int (i.fmod 5) u)) Q E s := by
  have h1 := Int.fmod_nonneg_of_pos i (show (0 : Int) < 5 by decide)
  have h2 := Int.fmod_lt_of_pos i (show (0 : Int) < 5 by decide)
  generalize i.fmod 5 = j at h h1 h2
  have hl : s.heap.IsList l #[.str ⟨(f0).toArray⟩ t0, .str ⟨(f1).toArray⟩ t1, .str ⟨(f2).toArray⟩ t2, .str ⟨(f3).toArray⟩ t3, .str ⟨(f4).toArray⟩ t4] := ⟨_, (N _ hm).1, rfl, n, rfl⟩
  have h3 : j = 0 ∨ j = 1 ∨ j = 2 ∨ j = 3 ∨ j = 4 := by omega
  rcases h3 with rfl | rfl | rfl | rfl | rfl
  · exact item_list hl (by decide) (by decide) rfl (h t0) (hs _) hg
  · exact item_list hl (by decide) (by decide) rfl (h t1) (hs _) hg
  · exact item_list hl (by decide) (by decide) rfl (h t2) (hs _) hg
  · exact item_list hl (by decide) (by decide) rfl (h t3) (hs _) hg
  · exact item_list hl (by decide) (by decide) rfl (h t4) (hs _) hg
end
set_option maxHeartbeats 8000000 in
theorem u_add4 {w : World} {A₀ : Around} {base g : Heap} {outer0 : List Env} {L0 L1 a0 : Addr} {mg mb : Str → Option Value} {s : Shared} {Q : Flow → Shared → Prop} {E : Value → Shared → Prop} {p : Program} {loose : List Str} {mean : ExcName → Option Value} {cn0 nm : Str} {cs0 : Scope} {ccd0 : Value} {cl0 : List (Str × Addr)} {gd : Option (List Code)} {sc : Scope} {m : Str → Option Value} {led : List (Addr × Obj)} {S : Stmt} {f : Addr} {st : Int} {tst tt : Tok} {txt : List Nat} {nn : Nat} {f0 f1 f2 f3 : List Nat} {t0 t1 t2 t3 : Tok}
    (hP : uAt 3 = some (sc, S)) (B1 : Below A₀ base (envX cn0 cs0 L0 a0 ccd0 cl0 :: outer0) g) (F0 : Fr g L1 s.heap m) (X1 : (Mine.KL w.params).In g) (T1 : Top p loose mean mg mb g) (N0 : News g L1 s.heap ((f, listOf #[.str ⟨(f0).toArray⟩ t0, .str ⟨(f1).toArray⟩ t1, .str ⟨(f2).toArray⟩ t2, .str ⟨(f3).toArray⟩ t3] nn) :: led)) (h1 : m (Str.ofString "forms") = some (.ref f)) (h2 : m (Str.ofString "style") = some (.int st tst)) (h3 : m (Str.ofString "text") = some (.str ⟨txt.toArray⟩ tt)) (htx : txt.length ≤ 990) (hf0 : f0.length ≤ 10) (hf1 : f1.length ≤ 10) (hf2 : f2.length ≤ 10) (hf3 : f3.length ≤ 10)
    (hret : ∀ t h' tk', Fr g L1 h' (fun y => if y = Str.ofString "text" then some (.str ⟨(txt ++ pick4 ((st.fdiv 4).fmod 4) f0 f1 f2 f3).toArray⟩ t) else m y) → News g L1 h' ((f, listOf #[.str ⟨(f0).toArray⟩ t0, .str ⟨(f1).toArray⟩ t1, .str ⟨(f2).toArray⟩ t2, .str ⟨(f3).toArray⟩ t3] nn) :: led) → Q .next { s with heap := h', toks := tk' }) :
    wpAny (model PySem.Challenge.rw_st0010_01.row.prog w) ((ktrTop 500 500 gd cn0 cs0 L0 a0 ccd0 cl0 outer0).deeper (envOf nm sc L1 106 (.ref 105))) (exec S (envOf nm sc L1 106 (.ref 105))) Q E s := by
  obtain ⟨h0, g0, r9, k0, os0⟩ := s
  dsimp only at F0 N0 hret ⊢
  conv at hP => lhs; whnf
  injection hP with hP
  injection hP with hP1 hP2
  subst hP1 hP2
  revert X1; k_fill; intro X1
  repeat' ((fail_if_success (with_reducible show LeaveK h₀ _ _ _ _ _ _)); (fail_if_success (with_reducible show wpAny _ _ (subscriptTail _ _ (Value.ref _) (Value.int _ _)) _ _ _)); first | (k_unfold; (try dsimp only)) | (k_end; wrow_close) | (first | ((with_reducible show wpAny _ _ (loadName _ _) _ _ _); with_reducible ((k_here; k_dflt (refine' loadX_Lm ?F ?v ?_ ?a ?b; (case F => k_asm); (case a => rfl); (case b => rfl); (case v => with_reducible assumption); k_whole)))) | ((with_reducible show wpAny _ _ (eval (PySem.Expr.Name _ _) _) _ _ _); with_reducible ((k_here; k_dflt (refine' nameX_L ?F ?v ?_ ?a ?b; (case F => k_asm); (case a => rfl); (case b => rfl); (case v => first | with_reducible assumption | rfl | assumption); k_whole)))) | ((with_reducible show wpAny _ _ (eval (PySem.Expr.Name _ _) _) _ _ _); with_reducible ((k_here; k_dflt (refine' nameX_L ?F ?v ?_ ?a ?b; (case F => k_asm); (case a => rfl); (case b => rfl); (case v => with_reducible assumption); k_whole)))) | ((with_reducible show wpAny _ _ (call (Value.builtin "str.join") _) _ _ _); with_reducible (((with_reducible show wpAny _ _ (call (Value.builtin "str.join") [Value.str _ _, Value.ref _]) _ _ _); (with_reducible rename CarriedAll _ _ => hc'); refine' join_bs ?hl ?hc ?hn ?_; (case hl => assumption); (case hc => exact hc'); (case hn => omega); intro _ _ _ _))) | (with_reducible (((with_reducible show wpAny _ _ (pyIter (Value.str _ _)) (CompPost _ _ _ _ _ _ _ _ _) _ _); (rename Fr _ _ _ _ => F'); (rename News _ _ _ _ => N'); refine' srcC_bs ?hh ?F ?N ?g2 ?g3 ?hl; (case hh => with_unfolding_all rfl); (case F => with_unfolding_all exact F'); (case N => with_unfolding_all exact N'); (case hl => size_fits); (case' g2 => (intros; (try (with_reducible refine wpAny_leafK ?_)))); (case' g3 => intros)))) | (with_reducible ((k_here; (with_reducible show wpAny _ _ (subscriptTail _ _ (Value.ref _) (Value.int _ _)) _ _ _); k_dflt (refine' item_names ?N ?hm ?hi ?hj ?hv ?_; (case N => k_asm); (case hm => k_mem); (case hv => with_reducible assumption); (case hi => omega); (case hj => omega))))) | walk1) | (dsimp only; (first | ((with_reducible show wpAny _ _ (loadName _ _) _ _ _); with_reducible ((k_here; k_dflt (refine' loadX_Lm ?F ?v ?_ ?a ?b; (case F => k_asm); (case a => rfl); (case b => rfl); (case v => with_reducible assumption); k_whole)))) | ((with_reducible show wpAny _ _ (eval (PySem.Expr.Name _ _) _) _ _ _); with_reducible ((k_here; k_dflt (refine' nameX_L ?F ?v ?_ ?a ?b; (case F => k_asm); (case a => rfl); (case b => rfl); (case v => first | with_reducible assumption | rfl | assumption); k_whole)))) | ((with_reducible show wpAny _ _ (eval (PySem.Expr.Name _ _) _) _ _ _); with_reducible ((k_here; k_dflt (refine' nameX_L ?F ?v ?_ ?a ?b; (case F => k_asm); (case a => rfl); (case b => rfl); (case v => with_reducible assumption); k_whole)))) | ((with_reducible show wpAny _ _ (call (Value.builtin "str.join") _) _ _ _); with_reducible (((with_reducible show wpAny _ _ (call (Value.builtin "str.join") [Value.str _ _, Value.ref _]) _ _ _); (with_reducible rename CarriedAll _ _ => hc'); refine' join_bs ?hl ?hc ?hn ?_; (case hl => assumption); (case hc => exact hc'); (case hn => omega); intro _ _ _ _))) | (with_reducible (((with_reducible show wpAny _ _ (pyIter (Value.str _ _)) (CompPost _ _ _ _ _ _ _ _ _) _ _); (rename Fr _ _ _ _ => F'); (rename News _ _ _ _ => N'); refine' srcC_bs ?hh ?F ?N ?g2 ?g3 ?hl; (case hh => with_unfolding_all rfl); (case F => with_unfolding_all exact F'); (case N => with_unfolding_all exact N'); (case hl => size_fits); (case' g2 => (intros; (try (with_reducible refine wpAny_leafK ?_)))); (case' g3 => intros)))) | (with_reducible ((k_here; (with_reducible show wpAny _ _ (subscriptTail _ _ (Value.ref _) (Value.int _ _)) _ _ _); k_dflt (refine' item_names ?N ?hm ?hi ?hj ?hv ?_; (case N => k_asm); (case hm => k_mem); (case hv => with_reducible assumption); (case hi => omega); (case hj => omega))))) | walk1)) | (leave1; walk_say "STEP leave1"; try dsimp only) | fail "no step")
  refine pick_item4 N0 (.head _) fun t9 => ?_
  have hpk : (pick4 ((st.fdiv 4).fmod 4) f0 f1 f2 f3).length ≤ 10 := by unfold pick4; repeat' (split <;> try assumption)
  generalize pick4 ((st.fdiv 4).fmod 4) f0 f1 f2 f3 = pk at hpk hret ⊢
  repeat' ((fail_if_success (with_reducible show LeaveK h₀ _ _ _ _ _ _)); (fail_if_success (with_reducible show @Eq Flow _ _ ∧ _)); first | (k_unfold; (try dsimp only)) | (k_end; wrow_close) | (first | ((with_reducible show wpAny _ _ (loadName _ _) _ _ _); with_reducible ((k_here; k_dflt (refine' loadX_Lm ?F ?v ?_ ?a ?b; (case F => k_asm); (case a => rfl); (case b => rfl); (case v => with_reducible assumption); k_whole)))) | ((with_reducible show wpAny _ _ (eval (PySem.Expr.Name _ _) _) _ _ _); with_reducible ((k_here; k_dflt (refine' nameX_L ?F ?v ?_ ?a ?b; (case F => k_asm); (case a => rfl); (case b => rfl); (case v => first | with_reducible assumption | rfl | assumption); k_whole)))) | ((with_reducible show wpAny _ _ (eval (PySem.Expr.Name _ _) _) _ _ _); with_reducible ((k_here; k_dflt (refine' nameX_L ?F ?v ?_ ?a ?b; (case F => k_asm); (case a => rfl); (case b => rfl); (case v => with_reducible assumption); k_whole)))) | ((with_reducible show wpAny _ _ (call (Value.builtin "str.join") _) _ _ _); with_reducible (((with_reducible show wpAny _ _ (call (Value.builtin "str.join") [Value.str _ _, Value.ref _]) _ _ _); (with_reducible rename CarriedAll _ _ => hc'); refine' join_bs ?hl ?hc ?hn ?_; (case hl => assumption); (case hc => exact hc'); (case hn => omega); intro _ _ _ _))) | (with_reducible (((with_reducible show wpAny _ _ (pyIter (Value.str _ _)) (CompPost _ _ _ _ _ _ _ _ _) _ _); (rename Fr _ _ _ _ => F'); (rename News _ _ _ _ => N'); refine' srcC_bs ?hh ?F ?N ?g2 ?g3 ?hl; (case hh => with_unfolding_all rfl); (case F => with_unfolding_all exact F'); (case N => with_unfolding_all exact N'); (case hl => size_fits); (case' g2 => (intros; (try (with_reducible refine wpAny_leafK ?_)))); (case' g3 => intros)))) | (with_reducible ((k_here; (with_reducible show wpAny _ _ (subscriptTail _ _ (Value.ref _) (Value.int _ _)) _ _ _); k_dflt (refine' item_names ?N ?hm ?hi ?hj ?hv ?_; (case N => k_asm); (case hm => k_mem); (case hv => with_reducible assumption); (case hi => omega); (case hj => omega))))) | walk1) | (dsimp only; (first | ((with_reducible show wpAny _ _ (loadName _ _) _ _ _); with_reducible ((k_here; k_dflt (refine' loadX_Lm ?F ?v ?_ ?a ?b; (case F => k_asm); (case a => rfl); (case b => rfl); (case v => with_reducible assumption); k_whole)))) | ((with_reducible show wpAny _ _ (eval (PySem.Expr.Name _ _) _) _ _ _); with_reducible ((k_here; k_dflt (refine' nameX_L ?F ?v ?_ ?a ?b; (case F => k_asm); (case a => rfl); (case b => rfl); (case v => first | with_reducible assumption | rfl | assumption); k_whole)))) | ((with_reducible show wpAny _ _ (eval (PySem.Expr.Name _ _) _) _ _ _); with_reducible ((k_here; k_dflt (refine' nameX_L ?F ?v ?_ ?a ?b; (case F => k_asm); (case a => rfl); (case b => rfl); (case v => with_reducible assumption); k_whole)))) | ((with_reducible show wpAny _ _ (call (Value.builtin "str.join") _) _ _ _); with_reducible (((with_reducible show wpAny _ _ (call (Value.builtin "str.join") [Value.str _ _, Value.ref _]) _ _ _); (with_reducible rename CarriedAll _ _ => hc'); refine' join_bs ?hl ?hc ?hn ?_; (case hl => assumption); (case hc => exact hc'); (case hn => omega); intro _ _ _ _))) | (with_reducible (((with_reducible show wpAny _ _ (pyIter (Value.str _ _)) (CompPost _ _ _ _ _ _ _ _ _) _ _); (rename Fr _ _ _ _ => F'); (rename News _ _ _ _ => N'); refine' srcC_bs ?hh ?F ?N ?g2 ?g3 ?hl; (case hh => with_unfolding_all rfl); (case F => with_unfolding_all exact F'); (case N => with_unfolding_all exact N'); (case hl => size_fits); (case' g2 => (intros; (try (with_reducible refine wpAny_leafK ?_)))); (case' g3 => intros)))) | (with_reducible ((k_here; (with_reducible show wpAny _ _ (subscriptTail _ _ (Value.ref _) (Value.int _ _)) _ _ _); k_dflt (refine' item_names ?N ?hm ?hi ?hj ?hv ?_; (case N => k_asm); (case hm => k_mem); (case hv => with_reducible assumption); (case hi => omega); (case hj => omega))))) | walk1)) | (leave1; walk_say "STEP leave1"; try dsimp only) | fail "no step")
  rename Fr g _ _ _ => F9
  rename News g _ _ _ => N9
  rw [cat_mk] at F9
  exact hret _ _ _ F9 N9
set_option maxHeartbeats 8000000 in
theorem u_add5 {w : World} {A₀ : Around} {base g : Heap} {outer0 : List Env} {L0 L1 a0 : Addr} {mg mb : Str → Option Value} {s : Shared} {Q : Flow → Shared → Prop} {E : Value → Shared → Prop} {p : Program} {loose : List Str} {mean : ExcName → Option Value} {cn0 nm : Str} {cs0 : Scope} {ccd0 : Value} {cl0 : List (Str × Addr)} {gd : Option (List Code)} {sc : Scope} {m : Str → Option Value} {led : List (Addr × Obj)} {S : Stmt} {f : Addr} {st : Int} {tst tt : Tok} {txt : List Nat} {nn : Nat} {f0 f1 f2 f3 f4 : List Nat} {t0 t1 t2 t3 t4 : Tok}
    (hP : uAt 3 = some (sc, S)) (B1 : Below A₀ base (envX cn0 cs0 L0 a0 ccd0 cl0 :: outer0) g) (F0 : Fr g L1 s.heap m) (X1 : (Mine.KL w.params).In g) (T1 : Top p loose mean mg mb g) (N0 : News g L1 s.heap ((f, listOf #[.str ⟨(f0).toArray⟩ t0, .str ⟨(f1).toArray⟩ t1, .str ⟨(f2).toArray⟩ t2, .str ⟨(f3).toArray⟩ t3, .str ⟨(f4).toArray⟩ t4] nn) :: led)) (h1 : m (Str.ofString "forms") = some (.ref f)) (h2 : m (Str.ofString "style") = some (.int st tst)) (h3 : m (Str.ofString "text") = some (.str ⟨txt.toArray⟩ tt)) (htx : txt.length ≤ 990) (hf0 : f0.length ≤ 10) (hf1 : f1.length ≤ 10) (hf2 : f2.length ≤ 10) (hf3 : f3.length ≤ 10) (hf4 : f4.length ≤ 10)
    (hret : ∀ t h' tk', Fr g L1 h' (fun y => if y = Str.ofString "text" then some (.str ⟨(txt ++ pick5 ((st.fdiv 4).fmod 5) f0 f1 f2 f3 f4).toArray⟩ t) else m y) → News g L1 h' ((f, listOf #[.str ⟨(f0).toArray⟩ t0, .str ⟨(f1).toArray⟩ t1, .str ⟨(f2).toArray⟩ t2, .str ⟨(f3).toArray⟩ t3, .str ⟨(f4).toArray⟩ t4] nn) :: led) → Q .next { s with heap := h', toks := tk' }) :
    wpAny (model PySem.Challenge.rw_st0010_01.row.prog w) ((ktrTop 500 500 gd cn0 cs0 L0 a0 ccd0 cl0 outer0).deeper (envOf nm sc L1 106 (.ref 105))) (exec S (envOf nm sc L1 106 (.ref 105))) Q E s := by
  obtain ⟨h0, g0, r9, k0, os0⟩ := s
  dsimp only at F0 N0 hret ⊢
  conv at hP => lhs; whnf
  injection hP with hP
  injection hP with hP1 hP2
  subst hP1 hP2
  revert X1; k_fill; intro X1
  repeat' ((fail_if_success (with_reducible show LeaveK h₀ _ _ _ _ _ _)); (fail_if_success (with_reducible show wpAny _ _ (subscriptTail _ _ (Value.ref _) (Value.int _ _)) _ _ _)); first | (k_unfold; (try dsimp only)) | (k_end; wrow_close) | (first | ((with_reducible show wpAny _ _ (loadName _ _) _ _ _); with_reducible ((k_here; k_dflt (refine' loadX_Lm ?F ?v ?_ ?a ?b; (case F => k_asm); (case a => rfl); (case b => rfl); (case v => with_reducible assumption); k_whole)))) | ((with_reducible show wpAny _ _ (eval (PySem.Expr.Name _ _) _) _ _ _); with_reducible ((k_here; k_dflt (refine' nameX_L ?F ?v ?_ ?a ?b; (case F => k_asm); (case a => rfl); (case b => rfl); (case v => first | with_reducible assumption | rfl | assumption); k_whole)))) | ((with_reducible show wpAny _ _ (eval (PySem.Expr.Name _ _) _) _ _ _); with_reducible ((k_here; k_dflt (refine' nameX_L ?F ?v ?_ ?a ?b; (case F => k_asm); (case a => rfl); (case b => rfl); (case v => with_reducible assumption); k_whole)))) | ((with_reducible show wpAny _ _ (call (Value.builtin "str.join") _) _ _ _); with_reducible (((with_reducible show wpAny _ _ (call (Value.builtin "str.join") [Value.str _ _, Value.ref _]) _ _ _); (with_reducible rename CarriedAll _ _ => hc'); refine' join_bs ?hl ?hc ?hn ?_; (case hl => assumption); (case hc => exact hc'); (case hn => omega); intro _ _ _ _))) | (with_reducible (((with_reducible show wpAny _ _ (pyIter (Value.str _ _)) (CompPost _ _ _ _ _ _ _ _ _) _ _); (rename Fr _ _ _ _ => F'); (rename News _ _ _ _ => N'); refine' srcC_bs ?hh ?F ?N ?g2 ?g3 ?hl; (case hh => with_unfolding_all rfl); (case F => with_unfolding_all exact F'); (case N => with_unfolding_all exact N'); (case hl => size_fits); (case' g2 => (intros; (try (with_reducible refine wpAny_leafK ?_)))); (case' g3 => intros)))) | (with_reducible ((k_here; (with_reducible show wpAny _ _ (subscriptTail _ _ (Value.ref _) (Value.int _ _)) _ _ _); k_dflt (refine' item_names ?N ?hm ?hi ?hj ?hv ?_; (case N => k_asm); (case hm => k_mem); (case hv => with_reducible assumption); (case hi => omega); (case hj => omega))))) | walk1) | (dsimp only; (first | ((with_reducible show wpAny _ _ (loadName _ _) _ _ _); with_reducible ((k_here; k_dflt (refine' loadX_Lm ?F ?v ?_ ?a ?b; (case F => k_asm); (case a => rfl); (case b => rfl); (case v => with_reducible assumption); k_whole)))) | ((with_reducible show wpAny _ _ (eval (PySem.Expr.Name _ _) _) _ _ _); with_reducible ((k_here; k_dflt (refine' nameX_L ?F ?v ?_ ?a ?b; (case F => k_asm); (case a => rfl); (case b => rfl); (case v => first | with_reducible assumption | rfl | assumption); k_whole)))) | ((with_reducible show wpAny _ _ (eval (PySem.Expr.Name _ _) _) _ _ _); with_reducible ((k_here; k_dflt (refine' nameX_L ?F ?v ?_ ?a ?b; (case F => k_asm); (case a => rfl); (case b => rfl); (case v => with_reducible assumption); k_whole)))) | ((with_reducible show wpAny _ _ (call (Value.builtin "str.join") _) _ _ _); with_reducible (((with_reducible show wpAny _ _ (call (Value.builtin "str.join") [Value.str _ _, Value.ref _]) _ _ _); (with_reducible rename CarriedAll _ _ => hc'); refine' join_bs ?hl ?hc ?hn ?_; (case hl => assumption); (case hc => exact hc'); (case hn => omega); intro _ _ _ _))) | (with_reducible (((with_reducible show wpAny _ _ (pyIter (Value.str _ _)) (CompPost _ _ _ _ _ _ _ _ _) _ _); (rename Fr _ _ _ _ => F'); (rename News _ _ _ _ => N'); refine' srcC_bs ?hh ?F ?N ?g2 ?g3 ?hl; (case hh => with_unfolding_all rfl); (case F => with_unfolding_all exact F'); (case N => with_unfolding_all exact N'); (case hl => size_fits); (case' g2 => (intros; (try (with_reducible refine wpAny_leafK ?_)))); (case' g3 => intros)))) | (with_reducible ((k_here; (with_reducible show wpAny _ _ (subscriptTail _ _ (Value.ref _) (Value.int _ _)) _ _ _); k_dflt (refine' item_names ?N ?hm ?hi ?hj ?hv ?_; (case N => k_asm); (case hm => k_mem); (case hv => with_reducible assumption); (case hi => omega); (case hj => omega))))) | walk1)) | (leave1; walk_say "STEP leave1"; try dsimp only) | fail "no step")
  refine pick_item5 N0 (.head _) fun t9 => ?_
  have hpk : (pick5 ((st.fdiv 4).fmod 5) f0 f1 f2 f3 f4).length ≤ 10 := by unfold pick5; repeat' (split <;> try assumption)
  generalize pick5 ((st.fdiv 4).fmod 5) f0 f1 f2 f3 f4 = pk at hpk hret ⊢
  repeat' ((fail_if_success (with_reducible show LeaveK h₀ _ _ _ _ _ _)); (fail_if_success (with_reducible show @Eq Flow _ _ ∧ _)); first | (k_unfold; (try dsimp only)) | (k_end; wrow_close) | (first | ((with_reducible show wpAny _ _ (loadName _ _) _ _ _); with_reducible ((k_here; k_dflt (refine' loadX_Lm ?F ?v ?_ ?a ?b; (case F => k_asm); (case a => rfl); (case b => rfl); (case v => with_reducible assumption); k_whole)))) | ((with_reducible show wpAny _ _ (eval (PySem.Expr.Name _ _) _) _ _ _); with_reducible ((k_here; k_dflt (refine' nameX_L ?F ?v ?_ ?a ?b; (case F => k_asm); (case a => rfl); (case b => rfl); (case v => first | with_reducible assumption | rfl | assumption); k_whole)))) | ((with_reducible show wpAny _ _ (eval (PySem.Expr.Name _ _) _) _ _ _); with_reducible ((k_here; k_dflt (refine' nameX_L ?F ?v ?_ ?a ?b; (case F => k_asm); (case a => rfl); (case b => rfl); (case v => with_reducible assumption); k_whole)))) | ((with_reducible show wpAny _ _ (call (Value.builtin "str.join") _) _ _ _); with_reducible (((with_reducible show wpAny _ _ (call (Value.builtin "str.join") [Value.str _ _, Value.ref _]) _ _ _); (with_reducible rename CarriedAll _ _ => hc'); refine' join_bs ?hl ?hc ?hn ?_; (case hl => assumption); (case hc => exact hc'); (case hn => omega); intro _ _ _ _))) | (with_reducible (((with_reducible show wpAny _ _ (pyIter (Value.str _ _)) (CompPost _ _ _ _ _ _ _ _ _) _ _); (rename Fr _ _ _ _ => F'); (rename News _ _ _ _ => N'); refine' srcC_bs ?hh ?F ?N ?g2 ?g3 ?hl; (case hh => with_unfolding_all rfl); (case F => with_unfolding_all exact F'); (case N => with_unfolding_all exact N'); (case hl => size_fits); (case' g2 => (intros; (try (with_reducible refine wpAny_leafK ?_)))); (case' g3 => intros)))) | (with_reducible ((k_here; (with_reducible show wpAny _ _ (subscriptTail _ _ (Value.ref _) (Value.int _ _)) _ _ _); k_dflt (refine' item_names ?N ?hm ?hi ?hj ?hv ?_; (case N => k_asm); (case hm => k_mem); (case hv => with_reducible assumption); (case hi => omega); (case hj => omega))))) | walk1) | (dsimp only; (first | ((with_reducible show wpAny _ _ (loadName _ _) _ _ _); with_reducible ((k_here; k_dflt (refine' loadX_Lm ?F ?v ?_ ?a ?b; (case F => k_asm); (case a => rfl); (case b => rfl); (case v => with_reducible assumption); k_whole)))) | ((with_reducible show wpAny _ _ (eval (PySem.Expr.Name _ _) _) _ _ _); with_reducible ((k_here; k_dflt (refine' nameX_L ?F ?v ?_ ?a ?b; (case F => k_asm); (case a => rfl); (case b => rfl); (case v => first | with_reducible assumption | rfl | assumption); k_whole)))) | ((with_reducible show wpAny _ _ (eval (PySem.Expr.Name _ _) _) _ _ _); with_reducible ((k_here; k_dflt (refine' nameX_L ?F ?v ?_ ?a ?b; (case F => k_asm); (case a => rfl); (case b => rfl); (case v => with_reducible assumption); k_whole)))) | ((with_reducible show wpAny _ _ (call (Value.builtin "str.join") _) _ _ _); with_reducible (((with_reducible show wpAny _ _ (call (Value.builtin "str.join") [Value.str _ _, Value.ref _]) _ _ _); (with_reducible rename CarriedAll _ _ => hc'); refine' join_bs ?hl ?hc ?hn ?_; (case hl => assumption); (case hc => exact hc'); (case hn => omega); intro _ _ _ _))) | (with_reducible (((with_reducible show wpAny _ _ (pyIter (Value.str _ _)) (CompPost _ _ _ _ _ _ _ _ _) _ _); (rename Fr _ _ _ _ => F'); (rename News _ _ _ _ => N'); refine' srcC_bs ?hh ?F ?N ?g2 ?g3 ?hl; (case hh => with_unfolding_all rfl); (case F => with_unfolding_all exact F'); (case N => with_unfolding_all exact N'); (case hl => size_fits); (case' g2 => (intros; (try (with_reducible refine wpAny_leafK ?_)))); (case' g3 => intros)))) | (with_reducible ((k_here; (with_reducible show wpAny _ _ (subscriptTail _ _ (Value.ref _) (Value.int _ _)) _ _ _); k_dflt (refine' item_names ?N ?hm ?hi ?hj ?hv ?_; (case N => k_asm); (case hm => k_mem); (case hv => with_reducible assumption); (case hi => omega); (case hj => omega))))) | walk1)) | (leave1; walk_say "STEP leave1"; try dsimp only) | fail "no step")
  rename Fr g _ _ _ => F9
  rename News g _ _ _ => N9
  rw [cat_mk] at F9
  exact hret _ _ _ F9 N9
end
-- U2
noncomputable def opNames : List (List Nat) := [[40], [41], [91], [93], [58], [44], [59], [43], [45], [42], [47], [124], [38], [60], [62], [61], [46], [37], [123], [125], [61, 61], [33, 61], [60, 61], [62, 61], [126], [94], [60, 60], [62, 62], [42, 42], [43, 61], [45, 61], [42, 61], [47, 61], [37, 61], [38, 61], [124, 61], [94, 61], [60, 60, 61], [62, 62, 61], [42, 42, 61], [47, 47], [47, 47, 61], [64], [64, 61], [45, 62], [46, 46, 46], [58, 61], [33]]
noncomputable def nmOf (n : Int) : List Nat := opNames.getD (n - 7).toNat []
theorem nm_all : ∀ i : Fin 48, 1 ≤ (opNames.getD i.1 []).length ∧ (opNames.getD i.1 []).length ≤ 3 := by decide
theorem nm_len {n : Int} (h1 : 7 ≤ n) (h2 : n ≤ 54) : 1 ≤ (nmOf n).length ∧ (nmOf n).length ≤ 3 := nm_all ⟨(n - 7).toNat, by omega⟩
theorem esc_len : ∀ l : List Nat, (esc l).length = 2 * l.length
  | [] => rfl
  | c :: r => by
    have e : esc (c :: r) = 92 :: c :: esc r := rfl
    rw [e]
    simp only [List.length_cons, esc_len r]
    omega
theorem formN_len {nm : List Nat} {st : Int} (h : nm.length ≤ 3) : (formN nm st).length ≤ 10 := by
  unfold formN
  split
  · simp; omega
  · split
    · simp [esc_len]; omega
    · split
      · simp; omega
      · simp [esc_len]; omega
theorem form0_len (st : Int) : (form0 st).length ≤ 10 := by
  unfold form0
  split
  · simp
  · split
    · simp
    · split
      · simp
      · split <;> simp
noncomputable def txtGo (sp : Int) : Int → List Int → List Nat
  | _, [] => []
  | st, n :: r => (if n = 0 then form0 ((st + sp).fmod 36) else formN (nmOf n) ((st + sp).fmod 36)) ++ txtGo sp ((st + sp).fmod 36) r
structure TM (na : Addr) (sp st : Int) (txt : List Nat) (m : Str → Option Value) : Prop where
  hn : m (Str.ofString "names") = some (.ref na)
  hs : ∃ t, m (Str.ofString "step") = some (.int sp t)
  hy : ∃ t, m (Str.ofString "style") = some (.int st t)
  ht : ∃ t, m (Str.ofString "text") = some (.str ⟨txt.toArray⟩ t)
noncomputable def piece (n st : Int) : List Nat := if n = 0 then form0 st else formN (nmOf n) st
set_option maxHeartbeats 8000000 in
theorem num_turn {w : World} {A₀ : Around} {base g : Heap} {outer0 : List Env} {L0 L1 a0 : Addr} {mg mb : Str → Option Value} {s : Shared} {Q : Flow → Shared → Prop} {E : Value → Shared → Prop} {p : Program} {loose : List Str} {mean : ExcName → Option Value} {cn0 nm : Str} {cs0 : Scope} {ccd0 : Value} {cl0 : List (Str × Addr)} {gd : Option (List Code)} {sc : Scope} {m : Str → Option Value} {led : List (Addr × Obj)} {S : List Stmt} {na : Addr} {nv : Array Value} {nn : Nat} {st sp : Int} {txt : List Nat} {n : Int} {tn : Tok}
    (hP : textInner = some (sc, S)) (B1 : Below A₀ base (envX cn0 cs0 L0 a0 ccd0 cl0 :: outer0) g) (F0 : Fr g L1 s.heap m) (X1 : (Mine.KL w.params).In g) (T1 : Top p loose mean mg mb g) (N0 : News g L1 s.heap ((na, listOf nv nn) :: led)) (hm : TM na sp st txt m) (hnum : m (Str.ofString "number") = some (.int n tn)) (hn : n = 0 ∨ 7 ≤ n ∧ n ≤ 54) (hnv : ∀ n : Int, 7 ≤ n → n ≤ 54 → ∃ t, nv[(n - 7).toNat]? = some (.str ⟨(nmOf n).toArray⟩ t)) (htx : txt.length ≤ 900)
    (hret : ∀ m' h' tk', TM na sp ((st + sp).fmod 36) (txt ++ piece n ((st + sp).fmod 36)) m' → Fr g L1 h' m' → News g L1 h' ((na, listOf nv nn) :: led) → Q .next { s with heap := h', toks := tk' }) :
    wpAny (model PySem.Challenge.rw_st0010_01.row.prog w) ((ktrTop 500 500 gd cn0 cs0 L0 a0 ccd0 cl0 outer0).deeper (envOf nm sc L1 106 (.ref 105))) (execs S (envOf nm sc L1 106 (.ref 105))) Q E s := by
  conv at hP => lhs; whnf
  injection hP with hP
  injection hP with hP1 hP2
  subst hP1 hP2
  obtain ⟨t1, hs⟩ := hm.hs
  obtain ⟨t2, hy⟩ := hm.hy
  obtain ⟨t3, ht⟩ := hm.ht
  refine wpAny_execs_cons (u_style rfl B1 F0 X1 T1 N0 hy hs fun t4 h1 k1 F1 N1 => ?_)
  clear F0 N0
  refine wpAny_execs_cons (u_white rfl B1 F1 X1 T1 N1 (if_pos rfl) fun t5 h2 k2 F2 N2 => ?_)
  clear F1 N1
  rcases hn with rfl | ⟨h7, h54⟩
  · refine wpAny_execs_cons (u_zero rfl B1 F2 X1 T1 N2 ((if_neg (by decide)).trans ((if_neg (by decide)).trans hnum)) (if_pos rfl) fun f a0 a1 a2 a3 a4 h3 k3 F3 N3 => ?_)
    clear F2 N2
    refine wpAny_execs_cons (u_add5 rfl B1 F3 X1 T1 N3 (if_pos rfl) ((if_neg (by decide)).trans ((if_neg (by decide)).trans (if_pos rfl))) ((if_neg (by decide)).trans ((if_neg (by decide)).trans ((if_neg (by decide)).trans ht))) (by omega) (Nat.le_of_ble_eq_true rfl) (Nat.le_of_ble_eq_true rfl) (Nat.le_of_ble_eq_true rfl) (Nat.le_of_ble_eq_true rfl) (Nat.le_of_ble_eq_true rfl) fun t6 h4 k4 F4 N4 => ?_)
    refine wpAny_execs_nil ?_
    exact hret _ h4 k4 ⟨(if_neg (by decide)).trans ((if_neg (by decide)).trans ((if_neg (by decide)).trans ((if_neg (by decide)).trans hm.hn))), ⟨t1, (if_neg (by decide)).trans ((if_neg (by decide)).trans ((if_neg (by decide)).trans ((if_neg (by decide)).trans hs)))⟩, ⟨t4, (if_neg (by decide)).trans ((if_neg (by decide)).trans ((if_neg (by decide)).trans (if_pos rfl)))⟩, ⟨t6, if_pos rfl⟩⟩ F4 (News.sub N4 fun p hp => .tail _ hp)
  · obtain ⟨t9, hv⟩ := hnv n h7 h54
    obtain ⟨l1, l3⟩ := nm_len h7 h54
    refine wpAny_execs_cons (u_name rfl B1 F2 X1 T1 N2 ((if_neg (by decide)).trans ((if_neg (by decide)).trans hnum)) (if_pos rfl) ((if_neg (by decide)).trans ((if_neg (by decide)).trans hm.hn)) h7 h54 hv l1 l3 fun f a0 a1 a2 a3 m3 h3 k3 hf hk F3 N3 => ?_)
    clear F2 N2
    have q1 : m3 (Str.ofString "style") = some (.int ((st + sp).fmod 36) t4) := (hk _ (by decide) (by decide) (by decide)).trans ((if_neg (by decide)).trans (if_pos rfl))
    refine wpAny_execs_cons (u_add4 rfl B1 F3 X1 T1 N3 hf q1 ((hk _ (by decide) (by decide) (by decide)).trans ((if_neg (by decide)).trans ((if_neg (by decide)).trans ht))) (by omega) (by simp; omega) (by simp [esc_len]; omega) (by simp; omega) (by simp [esc_len]; omega) fun t6 h4 k4 F4 N4 => ?_)
    refine wpAny_execs_nil ?_
    have ep : piece n ((st + sp).fmod 36) = formN (nmOf n) ((st + sp).fmod 36) := if_neg (by omega)
    rw [ep] at hret
    exact hret _ h4 k4 ⟨(if_neg (by decide)).trans ((hk _ (by decide) (by decide) (by decide)).trans ((if_neg (by decide)).trans ((if_neg (by decide)).trans hm.hn))), ⟨t1, (if_neg (by decide)).trans ((hk _ (by decide) (by decide) (by decide)).trans ((if_neg (by decide)).trans ((if_neg (by decide)).trans hs)))⟩, ⟨t4, (if_neg (by decide)).trans q1⟩, ⟨t6, if_pos rfl⟩⟩ F4 (News.sub N4 fun p hp => .tail _ hp)
noncomputable def stGo (sp : Int) : Int → List Int → Int
  | st, [] => st
  | st, _ :: r => stGo sp ((st + sp).fmod 36) r
theorem txtGo_app (sp : Int) (b : List Int) : ∀ (a : List Int) (st : Int), txtGo sp st (a ++ b) = txtGo sp st a ++ txtGo sp (stGo sp st a) b
  | [], _ => rfl
  | n :: a, st => by
    show _ ++ txtGo sp _ (a ++ b) = (_ ++ txtGo sp _ a) ++ _
    rw [txtGo_app sp b a, List.append_assoc]
    rfl
theorem stGo_app (sp : Int) (b : List Int) : ∀ (a : List Int) (st : Int), stGo sp st (a ++ b) = stGo sp (stGo sp st a) b
  | [], _ => rfl
  | _ :: a, st => stGo_app sp b a _
theorem piece_len {n st : Int} (hn : n = 0 ∨ 7 ≤ n ∧ n ≤ 54) : (piece n st).length ≤ 10 := by
  unfold piece
  rcases hn with h | h
  · rw [if_pos h]; exact form0_len st
  · rw [if_neg (by omega)]; exact formN_len (nm_len h.1 h.2).2
theorem txtGo_len (sp : Int) : ∀ (ns : List Int) (st : Int), (∀ n ∈ ns, n = 0 ∨ 7 ≤ n ∧ n ≤ 54) → (txtGo sp st ns).length ≤ 10 * ns.length
  | [], _, _ => Nat.zero_le _
  | n :: ns, st, h => by
    have ih := txtGo_len sp ns ((st + sp).fmod 36) fun x hx => h x (List.mem_cons_of_mem _ hx)
    have hp := piece_len (st := (st + sp).fmod 36) (h n (List.mem_cons_self ..))
    show (piece n ((st + sp).fmod 36) ++ txtGo sp ((st + sp).fmod 36) ns).length ≤ _
    rw [List.length_append, List.length_cons]
    omega
inductive TJ (na : Addr) (sp st : Int) (txt : List Nat) (xs : List Int) (nw : List (Addr × Obj)) : Nat → (Str → Option Value) → List (Addr × Obj) → Prop
  | mk {i : Nat} {m1 : Str → Option Value} : TM na sp (stGo sp st (xs.take i)) (txt ++ txtGo sp st (xs.take i)) m1 → TJ na sp st txt xs nw i m1 nw
theorem intsGet {vs : List Value} {xs : List Int} (h : IntsAre vs xs) : ∀ (i : Nat) (v : Value), vs[i]? = some v → ∃ k t, xs[i]? = some k ∧ v = .int k t := by
  induction h with
  | nil => intro i v e; simp at e
  | cons k t h ih =>
    intro i v e
    cases i with
    | zero => exact ⟨k, t, rfl, (Option.some.inj e).symm⟩
    | succ i => exact ih i v e
set_option maxHeartbeats 8000000 in
theorem num_loop {w : World} {A₀ : Around} {base g : Heap} {outer0 : List Env} {L0 L1 a0 : Addr} {mg mb : Str → Option Value} {s : Shared} {Q : Flow → Shared → Prop} {E : Value → Shared → Prop} {p : Program} {loose : List Str} {mean : ExcName → Option Value} {cn0 nm : Str} {cs0 : Scope} {ccd0 : Value} {cl0 : List (Str × Addr)} {gd : Option (List Code)} {sc : Scope} {m : Str → Option Value} {led : List (Addr × Obj)} {S : List Stmt} {na : Addr} {nv : Array Value} {nn : Nat} {st sp : Int} {txt : List Nat} {al : Addr} {vs : List Value} {vn : Nat} {xs : List Int}
    (hP : textInner = some (sc, S)) (B1 : Below A₀ base (envX cn0 cs0 L0 a0 ccd0 cl0 :: outer0) g) (F0 : Fr g L1 s.heap m) (X1 : (Mine.KL w.params).In g) (T1 : Top p loose mean mg mb g) (N0 : News g L1 s.heap ((na, listOf nv nn) :: led)) (hal : (al, listOf vs.toArray vn) ∈ led) (hm : TM na sp st txt m) (hi : IntsAre vs xs) (hx : ∀ n ∈ xs, n = 0 ∨ 7 ≤ n ∧ n ≤ 54) (hnv : ∀ n : Int, 7 ≤ n → n ≤ 54 → ∃ t, nv[(n - 7).toNat]? = some (.str ⟨(nmOf n).toArray⟩ t)) (htx : txt.length + 10 * xs.length ≤ 900)
    (hret : ∀ m' h' tk', TM na sp (stGo sp st xs) (txt ++ txtGo sp st xs) m' → Fr g L1 h' m' → News g L1 h' ((na, listOf nv nn) :: led) → Q .next { s with heap := h', toks := tk' }) :
    wpAny (model PySem.Challenge.rw_st0010_01.row.prog w) ((ktrTop 500 500 gd cn0 cs0 L0 a0 ccd0 cl0 outer0).deeper (envOf nm sc L1 106 (.ref 105))) (pyIter (.ref al)) (fun it s₂ => LoopAtV PySem.Challenge.rw_st0010_01.row.prog w ((ktrTop 500 500 gd cn0 cs0 L0 a0 ccd0 cl0 outer0).deeper (envOf nm sc L1 106 (.ref 105))) g (envOf nm sc L1 106 (.ref 105)) (Str.ofString "number") S Q E it s₂) E s := by
  have hlen := hi.length
  refine for_list rfl F0 N0 (.tail _ hal) (TJ na sp st txt xs ((na, listOf nv nn) :: led)) (.mk (by simpa [stGo, txtGo] using hm)) ?_ ?_
  · rintro i v m₁ news₁ h tk own Q' hv ⟨hm1⟩ hown F1 N1 hk
    obtain ⟨k, t, hk1, rfl⟩ := intsGet hi i v hv
    have hkx := hx k (List.mem_of_getElem? hk1)
    have hl1 := txtGo_len sp (xs.take i) st fun n hn => hx n (List.mem_of_mem_take hn)
    have hl2 := List.length_take_le' i xs
    obtain ⟨q1, ⟨u2, q2⟩, ⟨u3, q3⟩, ⟨u4, q4⟩⟩ := hm1
    refine num_turn (nn := nn) (led := led ++ own) hP B1 F1 X1 T1 (News.sub N1 fun q hq => ?_) ⟨(if_neg (by decide)).trans q1, ⟨u2, (if_neg (by decide)).trans q2⟩, ⟨u3, (if_neg (by decide)).trans q3⟩, ⟨u4, (if_neg (by decide)).trans q4⟩⟩ (if_pos rfl) hkx hnv (by rw [List.length_append]; omega) fun m' h' tk' hm2 F2 N2 => ?_
    · rcases List.mem_cons.mp hq with rfl | hq
      · exact List.mem_append_right _ (.head _)
      rcases List.mem_append.mp hq with hq | hq
      · exact List.mem_append_right _ (.tail _ hq)
      · exact List.mem_append_left _ hq
    · have et : xs.take (i + 1) = xs.take i ++ [k] := by rw [List.take_add_one, hk1]; rfl
      refine hk h' tk' m' _ F2 (News.sub N2 fun q hq => ?_) rfl (.mk ?_)
      · rcases List.mem_append.mp hq with hq | hq
        · exact .tail _ (List.mem_append_right _ hq)
        rcases List.mem_cons.mp hq with rfl | hq
        · exact .head _
        · exact .tail _ (List.mem_append_left _ hq)
      · rw [et, stGo_app, txtGo_app, ← List.append_assoc]
        have e9 : txtGo sp (stGo sp st (xs.take i)) [k] = piece k ((stGo sp st (xs.take i) + sp).fmod 36) := List.append_nil _
        rw [e9]
        exact hm2
  · intro h' tk m1 nw F5 N5 hJ
    generalize hk5 : vs.length = k5 at hJ
    cases hJ with
    | mk a =>
      rw [List.take_of_length_le (by omega)] at a
      exact hret m1 h' tk a F5 N5
-- U3
theorem nil_str : Str.ofString "" = ⟨([] : List Nat).toArray⟩ := by decide +kernel
noncomputable def textOuter : Option (Scope × List Stmt) := match (PySem.Challenge.pw_st0010_01.main.body.drop 61 : List Stmt) with
  | Stmt.FunctionDef _ _ (_ :: _ :: Stmt.For _ _ q _ _ :: _) _ _ _ sc _ _ _ :: _ => some (sc, q)
  | _ => none
theorem names_split : Txt.split (Str.ofString "( ) [ ] : , ; + - * / | & < > = . % { } == != <= >= ~ ^ << >> ** += -= *= /= %= &= |= ^= <<= >>= **= // //= @ @= -> ... := !") (Str.ofString " ") = opNames.map fun x => Str.mk x.toArray := by decide +kernel
theorem names_get {l : List Value} {ys : List Str} (h : StrsAre l ys) (e : ys = opNames.map fun x => Str.mk x.toArray) : ∀ n : Int, 7 ≤ n → n ≤ 54 → ∃ t, l.toArray[(n - 7).toNat]? = some (.str ⟨(nmOf n).toArray⟩ t) := by
  intro n h1 h2
  have h3 : ys[(n - 7).toNat]? = some (Str.mk (nmOf n).toArray) := by
    rw [e, List.getElem?_map]
    unfold nmOf
    have : (n - 7).toNat < opNames.length := by
      show (n - 7).toNat < 48
      omega
    simp [List.getD, this]
  obtain ⟨t, ht⟩ := h.at h3
  exact ⟨t, by simpa using ht⟩
set_option maxHeartbeats 8000000 in
theorem ballot_turn {w : World} {A₀ : Around} {base g : Heap} {outer0 : List Env} {L0 L1 a0 : Addr} {mg mb : Str → Option Value} {s : Shared} {Q : Flow → Shared → Prop} {E : Value → Shared → Prop} {p : Program} {loose : List Str} {mean : ExcName → Option Value} {cn0 nm : Str} {cs0 : Scope} {ccd0 : Value} {cl0 : List (Str × Addr)} {gd : Option (List Code)} {sc : Scope} {m : Str → Option Value} {led : List (Addr × Obj)} {S : List Stmt} {na : Addr} {nv : Array Value} {nn : Nat} {st sp : Int} {txt : List Nat} {al : Addr} {vs : List Value} {vn : Nat} {xs : List Int}
    (hP : textOuter = some (sc, S)) (B1 : Below A₀ base (envX cn0 cs0 L0 a0 ccd0 cl0 :: outer0) g) (F0 : Fr g L1 s.heap m) (X1 : (Mine.KL w.params).In g) (T1 : Top p loose mean mg mb g) (N0 : News g L1 s.heap ((na, listOf nv nn) :: led)) (hal : (al, listOf vs.toArray vn) ∈ led) (hbal : m (Str.ofString "ballot") = some (.ref al)) (hm : TM na sp st txt m) (hi : IntsAre vs xs) (hx : ∀ n ∈ xs, 7 ≤ n ∧ n ≤ 54) (h4 : xs.length ≤ 4) (hnv : ∀ n : Int, 7 ≤ n → n ≤ 54 → ∃ t, nv[(n - 7).toNat]? = some (.str ⟨(nmOf n).toArray⟩ t)) (htx : txt.length ≤ 800)
    (hret : ∀ m' h' tk', TM na sp (stGo sp st (xs ++ [0])) (txt ++ txtGo sp st (xs ++ [0])) m' → Fr g L1 h' m' → News g L1 h' ((na, listOf nv nn) :: led) → Q .next { s with heap := h', toks := tk' }) :
    wpAny (model PySem.Challenge.rw_st0010_01.row.prog w) ((ktrTop 500 500 gd cn0 cs0 L0 a0 ccd0 cl0 outer0).deeper (envOf nm sc L1 106 (.ref 105))) (execs S (envOf nm sc L1 106 (.ref 105))) Q E s := by
  obtain ⟨h0, g0, r9, k0, os0⟩ := s
  dsimp only at F0 N0 hret ⊢
  conv at hP => lhs; whnf
  injection hP with hP
  injection hP with hP1 hP2
  subst hP1 hP2
  revert X1; k_fill; intro X1
  refine wpAny_mono (Q := Q) (E := fun _ _ => False) ?_ (fun _ _ q => q) (fun _ _ f => False.elim f)
  refine wpAny_execs_cons (For_invVF F0 (by rfl) (by rfl) ?_)
  repeat' ((fail_if_success (with_reducible show wpAny _ _ (newList _) _ _ _)); (fail_if_success (with_reducible show wpAny _ _ (binaryOp _ (Value.ref _) (Value.ref _)) _ _ _)); (fail_if_success (with_reducible show wpAny _ _ (pyIter _) _ _ _)); (fail_if_success (with_reducible show wpAny _ _ (exec (Stmt.For _ _ _ _ _) _) _ _ _)); (fail_if_success (with_reducible show LeaveK h₀ _ _ _ _ _ _)); first | (k_unfold; (try dsimp only)) | (k_end; wrow_close) | (first | ((with_reducible show wpAny _ _ (eval (PySem.Expr.Name _ _) _) _ _ _); with_reducible ((k_here; k_dflt (refine' nameX_L ?F ?v ?_ ?a ?b; (case F => k_asm); (case a => rfl); (case b => rfl); (case v => with_reducible assumption); k_whole)))) | walk1) | (dsimp only; (first | ((with_reducible show wpAny _ _ (eval (PySem.Expr.Name _ _) _) _ _ _); with_reducible ((k_here; k_dflt (refine' nameX_L ?F ?v ?_ ?a ?b; (case F => k_asm); (case a => rfl); (case b => rfl); (case v => with_reducible assumption); k_whole)))) | walk1)) | (leave1; walk_say "STEP leave1"; try dsimp only) | fail "no step")
  refine newList_K2 F0 N0 (fun z0 h1 F1 N1 lz _ => ?_) (by size_fits)
  have ha1 : News g L1 h1 ((na, listOf nv nn) :: led) := News.sub N1 fun p hp => .tail _ hp
  clear F0 N0
  dsimp only
  refine kmk_add_ints F1 N1 ⟨_, (ha1 (al, listOf vs.toArray vn) (.tail _ hal)).1, rfl, vn, rfl⟩ ⟨_, (N1 _ (.head _)).1, rfl, 0, rfl⟩ hi (.cons _ _ .nil) (fun D us h2 F2 N2 lD hI => ?_) (by rw [sizeLine_eq]; show xs.length + 1 ≤ _; omega)
  clear F1 N1 ha1
  dsimp only
  repeat' ((fail_if_success (with_reducible show wpAny _ _ (newList _) _ _ _)); (fail_if_success (with_reducible show wpAny _ _ (binaryOp _ (Value.ref _) (Value.ref _)) _ _ _)); (fail_if_success (with_reducible show wpAny _ _ (pyIter _) _ _ _)); (fail_if_success (with_reducible show wpAny _ _ (exec (Stmt.For _ _ _ _ _) _) _ _ _)); (fail_if_success (with_reducible show LeaveK h₀ _ _ _ _ _ _)); first | (k_unfold; (try dsimp only)) | (k_end; wrow_close) | (first | ((with_reducible show wpAny _ _ (eval (PySem.Expr.Name _ _) _) _ _ _); with_reducible ((k_here; k_dflt (refine' nameX_L ?F ?v ?_ ?a ?b; (case F => k_asm); (case a => rfl); (case b => rfl); (case v => with_reducible assumption); k_whole)))) | walk1) | (dsimp only; (first | ((with_reducible show wpAny _ _ (eval (PySem.Expr.Name _ _) _) _ _ _); with_reducible ((k_here; k_dflt (refine' nameX_L ?F ?v ?_ ?a ?b; (case F => k_asm); (case a => rfl); (case b => rfl); (case v => with_reducible assumption); k_whole)))) | walk1)) | (leave1; walk_say "STEP leave1"; try dsimp only) | fail "no step")
  refine num_loop (nn := nn) (led := (D, listOf us.toArray 0) :: led) rfl B1 F2 X1 T1 (News.sub N2 fun q hq => ?_) (.head _) hm hI (fun n hn => ?_) hnv (by rw [List.length_append, List.length_singleton]; omega) fun m' h' tk' hm2 F3 N3 => ?_
  · rcases List.mem_cons.mp hq with rfl | hq
    · exact .tail _ (.tail _ (.head _))
    rcases List.mem_cons.mp hq with rfl | hq
    · exact .head _
    · exact .tail _ (.tail _ (.tail _ hq))
  · rcases List.mem_append.mp hn with hn | hn
    · exact .inr (hx n hn)
    · exact .inl (List.mem_singleton.mp hn)
  dsimp only
  refine wpAny_execs_nil ?_
  exact hret m' h' tk' hm2 F3 (News.sub N3 fun q hq => by
    rcases List.mem_cons.mp hq with rfl | hq
    · exact .head _
    · exact .tail _ (.tail _ hq))
structure TB where
  a : Addr
  xs : List Int
  vs : List Value
  n : Nat
noncomputable def tbRef (b : TB) : Value := .ref b.a
noncomputable def tbObj (b : TB) : Addr × Obj := (b.a, listOf b.vs.toArray b.n)
noncomputable def TbOk (b : TB) : Prop := IntsAre b.vs b.xs ∧ (∀ n ∈ b.xs, 7 ≤ n ∧ n ≤ 54) ∧ b.xs.length ≤ 4
noncomputable def bodyGo (sp : Int) : Int → List (List Int) → List Nat
  | _, [] => []
  | st, l :: r => txtGo sp st (l ++ [0]) ++ bodyGo sp (stGo sp st (l ++ [0])) r
noncomputable def bodySt (sp : Int) : Int → List (List Int) → Int
  | st, [] => st
  | st, l :: r => bodySt sp (stGo sp st (l ++ [0])) r
theorem body_snoc (sp : Int) (l : List Int) : ∀ (a : List (List Int)) (st : Int), bodyGo sp st (a ++ [l]) = bodyGo sp st a ++ txtGo sp (bodySt sp st a) (l ++ [0]) ∧ bodySt sp st (a ++ [l]) = stGo sp (bodySt sp st a) (l ++ [0])
  | [], _ => ⟨List.append_nil _, rfl⟩
  | b :: a, st => by
    obtain ⟨h1, h2⟩ := body_snoc sp l a (stGo sp st (b ++ [0]))
    refine ⟨?_, h2⟩
    show txtGo sp st (b ++ [0]) ++ bodyGo sp _ (a ++ [l]) = (txtGo sp st (b ++ [0]) ++ bodyGo sp _ a) ++ _
    rw [h1, List.append_assoc]
    rfl
theorem body_len (sp : Int) : ∀ (a : List (List Int)) (st : Int), (∀ l ∈ a, (∀ n ∈ l, 7 ≤ n ∧ n ≤ 54) ∧ l.length ≤ 4) → (bodyGo sp st a).length ≤ 50 * a.length
  | [], _, _ => Nat.zero_le _
  | l :: a, st, h => by
    obtain ⟨h1, h2⟩ := h l (List.mem_cons_self ..)
    have ih := body_len sp a (stGo sp st (l ++ [0])) fun x hx => h x (List.mem_cons_of_mem _ hx)
    have h3 := txtGo_len sp (l ++ [0]) st fun n hn => by
      rcases List.mem_append.mp hn with hn | hn
      · exact .inr (h1 n hn)
      · exact .inl (List.mem_singleton.mp hn)
    rw [List.length_append, List.length_singleton] at h3
    show (txtGo sp st (l ++ [0]) ++ bodyGo sp _ a).length ≤ _
    rw [List.length_append, List.length_cons]
    omega
inductive OJ (na : Addr) (sp st : Int) (BS : List TB) (nw : List (Addr × Obj)) : Nat → (Str → Option Value) → List (Addr × Obj) → Prop
  | mk {i : Nat} {m1 : Str → Option Value} : TM na sp (bodySt sp st ((BS.take i).map TB.xs)) (bodyGo sp st ((BS.take i).map TB.xs)) m1 → OJ na sp st BS nw i m1 nw
set_option maxHeartbeats 8000000 in
theorem ballots_loop {w : World} {A₀ : Around} {base g : Heap} {outer0 : List Env} {L0 L1 a0 : Addr} {mg mb : Str → Option Value} {s : Shared} {Q : Flow → Shared → Prop} {E : Value → Shared → Prop} {p : Program} {loose : List Str} {mean : ExcName → Option Value} {cn0 nm : Str} {cs0 : Scope} {ccd0 : Value} {cl0 : List (Str × Addr)} {gd : Option (List Code)} {sc : Scope} {m : Str → Option Value} {led : List (Addr × Obj)} {S : List Stmt} {na : Addr} {nv : Array Value} {nn : Nat} {st sp : Int} {bl : Addr} {bn : Nat} {BS : List TB}
    (hP : textOuter = some (sc, S)) (B1 : Below A₀ base (envX cn0 cs0 L0 a0 ccd0 cl0 :: outer0) g) (F0 : Fr g L1 s.heap m) (X1 : (Mine.KL w.params).In g) (T1 : Top p loose mean mg mb g) (N0 : News g L1 s.heap ((na, listOf nv nn) :: led)) (hal : (bl, listOf (List.toArray (BS.map tbRef)) bn) ∈ led) (hm : TM na sp st [] m) (hB : ∀ b ∈ BS, TbOk b ∧ tbObj b ∈ led) (h5 : BS.length ≤ 5) (hnv : ∀ n : Int, 7 ≤ n → n ≤ 54 → ∃ t, nv[(n - 7).toNat]? = some (.str ⟨(nmOf n).toArray⟩ t))
    (hret : ∀ m' h' tk', TM na sp (bodySt sp st (BS.map TB.xs)) (bodyGo sp st (BS.map TB.xs)) m' → Fr g L1 h' m' → News g L1 h' ((na, listOf nv nn) :: led) → Q .next { s with heap := h', toks := tk' }) :
    wpAny (model PySem.Challenge.rw_st0010_01.row.prog w) ((ktrTop 500 500 gd cn0 cs0 L0 a0 ccd0 cl0 outer0).deeper (envOf nm sc L1 106 (.ref 105))) (pyIter (.ref bl)) (fun it s₂ => LoopAtV PySem.Challenge.rw_st0010_01.row.prog w ((ktrTop 500 500 gd cn0 cs0 L0 a0 ccd0 cl0 outer0).deeper (envOf nm sc L1 106 (.ref 105))) g (envOf nm sc L1 106 (.ref 105)) (Str.ofString "ballot") S Q E it s₂) E s := by
  refine for_list rfl F0 N0 (.tail _ hal) (OJ na sp st BS ((na, listOf nv nn) :: led)) (.mk hm) ?_ ?_
  · rintro i v m₁ news₁ h tk own Q' hv ⟨hm1⟩ hown F1 N1 hk
    rw [List.getElem?_map] at hv
    obtain ⟨b, hb, rfl⟩ := Option.map_eq_some_iff.mp hv
    have hbm : b ∈ BS := List.mem_of_getElem? hb
    obtain ⟨⟨hi, hx, h4⟩, hbo⟩ := hB b hbm
    have hil : i < BS.length := (List.getElem?_eq_some_iff.mp hb).1
    have hl1 := body_len sp ((BS.take i).map TB.xs) st fun l hl => by
      obtain ⟨b', hb', rfl⟩ := List.mem_map.mp hl
      exact (hB b' (List.mem_of_mem_take hb')).1.2
    rw [List.length_map] at hl1
    have hl2 := List.length_take_le' i BS
    obtain ⟨q1, ⟨u2, q2⟩, ⟨u3, q3⟩, ⟨u4, q4⟩⟩ := hm1
    refine ballot_turn (nn := nn) (led := led ++ own) hP B1 F1 X1 T1 (News.sub N1 fun q hq => ?_) (List.mem_append_left _ hbo) (if_pos rfl) ⟨(if_neg (by decide)).trans q1, ⟨u2, (if_neg (by decide)).trans q2⟩, ⟨u3, (if_neg (by decide)).trans q3⟩, ⟨u4, (if_neg (by decide)).trans q4⟩⟩ hi hx h4 hnv (by omega) fun m' h' tk' hm2 F2 N2 => ?_
    · rcases List.mem_cons.mp hq with rfl | hq
      · exact List.mem_append_right _ (.head _)
      rcases List.mem_append.mp hq with hq | hq
      · exact List.mem_append_right _ (.tail _ hq)
      · exact List.mem_append_left _ hq
    · have et : (BS.take (i + 1)).map TB.xs = (BS.take i).map TB.xs ++ [b.xs] := by rw [List.take_add_one, hb, List.map_append]; rfl
      refine hk h' tk' m' _ F2 (News.sub N2 fun q hq => ?_) rfl (.mk ?_)
      · rcases List.mem_append.mp hq with hq | hq
        · exact .tail _ (List.mem_append_right _ hq)
        rcases List.mem_cons.mp hq with rfl | hq
        · exact .head _
        · exact .tail _ (List.mem_append_left _ hq)
      · rw [et, (body_snoc sp _ _ _).1, (body_snoc sp _ _ _).2]
        exact hm2
  · intro h' tk m1 nw F5 N5 hJ
    generalize hk5 : (BS.map tbRef).length = k5 at hJ
    cases hJ with
    | mk a =>
      rw [List.length_map] at hk5
      rw [List.take_of_length_le (by omega)] at a
      exact hret m1 h' tk a F5 N5
set_option maxHeartbeats 8000000 in
theorem spec_textX {w : World} {A₀ : Around} {base h₀ : Heap} {outer : List Env} {L a : Addr} {m mg mb : Str → Option Value} {s : Shared} {Q E : Value → Shared → Prop} {p : Program} {loose : List Str} {mean : ExcName → Option Value} {cn : Str} {cs : Scope} {ccd : Value} {cl : List (Str × Addr)} {gd : Option (List Code)} {led : List (Addr × Obj)} {st sp : Int} {tst tsp : Tok} {bl : Addr} {bn : Nat} {BS : List TB}
    (B : Below A₀ base outer h₀) (F : Fr h₀ L s.heap m) (X : (Mine.KL w.params).In h₀) (T : Top p loose mean mg mb h₀) (hk : cs.kind = .function) (N : News h₀ L s.heap led) (hal : (bl, listOf (List.toArray (BS.map tbRef)) bn) ∈ led) (hB : ∀ b ∈ BS, TbOk b ∧ tbObj b ∈ led) (h5 : BS.length ≤ 5)
    (hret : ∀ t h' tk', Fr h₀ L h' m → News h₀ L h' led → Keeps s.heap h' led → Q (.str ⟨(bodyGo sp st (BS.map TB.xs)).toArray⟩ t) { s with heap := h', toks := tk' }) :
    wpAny (model PySem.Challenge.rw_st0010_01.row.prog w) (ktrTop 500 500 gd cn cs L a ccd cl outer) (call (.ref 106) [.ref bl, .int st tst, .int sp tsp]) Q E s := by
  revert X; k_fill; intro X
  refine wpAny_call ?_
  refine' enter_K2 ?k1 ?k2 ?k3 ?k4 ?k5 ?kA ?kF ?kK ?k6 ?k7 ?k8 ?k9 ?kB ?_ ?c2 ?c3 ?c4 ?c5
  (case kA => exact rfl)
  (case kF => exact rfl)
  (case kK => assumption)
  (case k1 => k_asm)
  (case k2 => k_asm)
  (case k3 => k_asm)
  (case k4 => exact N)
  (case k5 => k_asm)
  (case k6 => k_is)
  (case k7 => k_is)
  (case k8 => exact Nat.le_of_ble_eq_true rfl)
  (case k9 => exact BindsTo.of_eq rfl)
  (case c5 => decide)
  (case kB => exact locs rfl)
  (case c2 => exact rfl)
  (case c3 => exact rfl)
  (case c4 => exact rfl)
  intro g1 L1 h1 FG F1 N1 B1 X1 T1 kp l1 hsz
  (try dsimp only)
  (try k_lift B1)
  repeat' ((fail_if_success (with_reducible show wpAny _ _ (newList _) _ _ _)); (fail_if_success (with_reducible show wpAny _ _ (binaryOp _ (Value.ref _) (Value.ref _)) _ _ _)); (fail_if_success (with_reducible show wpAny _ _ (pyIter _) _ _ _)); (fail_if_success (with_reducible show wpAny _ _ (exec (Stmt.For _ _ _ _ _) _) _ _ _)); (fail_if_success (with_reducible show LeaveK h₀ _ _ _ _ _ _)); first | (k_unfold; (try dsimp only)) | (k_end; wrow_close) | (first | ((with_reducible show wpAny _ _ (eval (PySem.Expr.Name _ _) _) _ _ _); with_reducible ((k_here; k_dflt (refine' nameX_L ?F ?v ?_ ?a ?b; (case F => k_asm); (case a => rfl); (case b => rfl); (case v => with_reducible assumption); k_whole)))) | walk1) | (dsimp only; (first | ((with_reducible show wpAny _ _ (eval (PySem.Expr.Name _ _) _) _ _ _); with_reducible ((k_here; k_dflt (refine' nameX_L ?F ?v ?_ ?a ?b; (case F => k_asm); (case a => rfl); (case b => rfl); (case v => with_reducible assumption); k_whole)))) | walk1)) | (leave1; walk_say "STEP leave1"; try dsimp only) | fail "no step")
  rename Fr g1 _ _ _ => F9
  rename News g1 _ _ _ => N9
  rename StrsAre _ _ => aS
  rename _ = Txt.split _ _ => eS
  have hnv := names_get aS (eS.trans names_split)
  refine For_invVF F9 (by rfl) (by rfl) ?_
  repeat' ((fail_if_success (with_reducible show wpAny _ _ (newList _) _ _ _)); (fail_if_success (with_reducible show wpAny _ _ (binaryOp _ (Value.ref _) (Value.ref _)) _ _ _)); (fail_if_success (with_reducible show wpAny _ _ (pyIter _) _ _ _)); (fail_if_success (with_reducible show wpAny _ _ (exec (Stmt.For _ _ _ _ _) _) _ _ _)); (fail_if_success (with_reducible show LeaveK h₀ _ _ _ _ _ _)); first | (k_unfold; (try dsimp only)) | (k_end; wrow_close) | (first | ((with_reducible show wpAny _ _ (eval (PySem.Expr.Name _ _) _) _ _ _); with_reducible ((k_here; k_dflt (refine' nameX_L ?F ?v ?_ ?a ?b; (case F => k_asm); (case a => rfl); (case b => rfl); (case v => with_reducible assumption); k_whole)))) | walk1) | (dsimp only; (first | ((with_reducible show wpAny _ _ (eval (PySem.Expr.Name _ _) _) _ _ _); with_reducible ((k_here; k_dflt (refine' nameX_L ?F ?v ?_ ?a ?b; (case F => k_asm); (case a => rfl); (case b => rfl); (case v => with_reducible assumption); k_whole)))) | walk1)) | (leave1; walk_say "STEP leave1"; try dsimp only) | fail "no step")
  refine ballots_loop rfl B1 F9 X1 T1 N9 hal ⟨rfl, ⟨_, rfl⟩, ⟨_, rfl⟩, ⟨_, congrArg (fun x => some (Value.str x _)) nil_str⟩⟩ hB h5 hnv fun m2 h2 k2 hm2 F2 N2 => ?_
  clear F9 N9
  obtain ⟨t9, ht⟩ := hm2.ht
  dsimp only
  repeat' ((fail_if_success (with_reducible show wpAny _ _ (newList _) _ _ _)); (fail_if_success (with_reducible show wpAny _ _ (binaryOp _ (Value.ref _) (Value.ref _)) _ _ _)); (fail_if_success (with_reducible show wpAny _ _ (pyIter _) _ _ _)); (fail_if_success (with_reducible show wpAny _ _ (exec (Stmt.For _ _ _ _ _) _) _ _ _)); (fail_if_success (with_reducible show LeaveK h₀ _ _ _ _ _ _)); first | (k_unfold; (try dsimp only)) | (k_end; wrow_close) | (first | ((with_reducible show wpAny _ _ (eval (PySem.Expr.Name _ _) _) _ _ _); with_reducible ((k_here; k_dflt (refine' nameX_L ?F ?v ?_ ?a ?b; (case F => k_asm); (case a => rfl); (case b => rfl); (case v => with_reducible assumption); k_whole)))) | walk1) | (dsimp only; (first | ((with_reducible show wpAny _ _ (eval (PySem.Expr.Name _ _) _) _ _ _); with_reducible ((k_here; k_dflt (refine' nameX_L ?F ?v ?_ ?a ?b; (case F => k_asm); (case a => rfl); (case b => rfl); (case v => with_reducible assumption); k_whole)))) | walk1)) | (leave1; walk_say "STEP leave1"; try dsimp only) | fail "no step")
  refine' leave_K ?fa ?na kp ?kk
  (case fa => exact F2)
  (case na => exact (News.sub N2 fun p hp => .tail _ hp))
  intro kF kN kK
  exact hret t9 _ _ kF kN kK
-- P1
noncomputable def plain (c : Nat) : Bool := !ws c && c != 34 && c != 92
theorem plain_ws {c : Nat} (h : plain c = true) : ws c = false ∧ c ≠ 34 ∧ c ≠ 92 := by
  simp only [plain, Bool.and_eq_true, Bool.not_eq_true', bne_iff_ne] at h
  exact ⟨h.1.1, h.1.2, h.2⟩
theorem bareGo_plain {l : List Nat} (hl : ∀ c ∈ l, plain c = true) {w : Nat} (hw : ws w = true) (r : List Nat) : ∀ tk, bareGo (l ++ w :: r) false tk = some (tk ++ l, r) := by
  induction l with
  | nil =>
    intro tk
    simp only [List.nil_append, bareGo, hw, if_true, List.append_nil]
  | cons c l ih =>
    intro tk
    obtain ⟨h1, h2, h3⟩ := plain_ws (hl c (List.mem_cons_self ..))
    simp only [List.cons_append, bareGo, h1, Bool.false_eq_true, if_false, h3]
    rw [ih (fun c' h' => hl c' (List.mem_cons_of_mem _ h'))]
    simp
theorem bareGo_esc {l : List Nat} {w : Nat} (hw : ws w = true) (r : List Nat) : ∀ tk, bareGo (esc l ++ w :: r) false tk = some (tk ++ l, r) := by
  induction l with
  | nil =>
    intro tk
    simp only [esc, List.flatMap_nil, List.nil_append, bareGo, hw, if_true, List.append_nil]
  | cons c l ih =>
    intro tk
    have e : esc (c :: l) = 92 :: c :: esc l := rfl
    rw [e]
    simp only [List.cons_append, bareGo, show ws 92 = false from by decide, Bool.false_eq_true, if_false, if_true]
    rw [ih]
    simp
theorem quoteGo_plain {l : List Nat} (hl : ∀ c ∈ l, plain c = true) (r : List Nat) : ∀ tk, quoteGo (l ++ 34 :: r) false tk = some (tk ++ l, r) := by
  induction l with
  | nil =>
    intro tk
    simp only [List.nil_append, quoteGo, if_true, List.append_nil]
  | cons c l ih =>
    intro tk
    obtain ⟨h1, h2, h3⟩ := plain_ws (hl c (List.mem_cons_self ..))
    simp only [List.cons_append, quoteGo, h2, if_false, h3]
    rw [ih (fun c' h' => hl c' (List.mem_cons_of_mem _ h'))]
    simp
theorem quoteGo_esc {l : List Nat} (r : List Nat) : ∀ tk, quoteGo (esc l ++ 34 :: r) false tk = some (tk ++ l, r) := by
  induction l with
  | nil =>
    intro tk
    simp only [esc, List.flatMap_nil, List.nil_append, quoteGo, if_true, List.append_nil]
  | cons c l ih =>
    intro tk
    have e : esc (c :: l) = 92 :: c :: esc l := rfl
    rw [e]
    simp only [List.cons_append, quoteGo, show ¬ (92 = 34) from by decide, if_false, if_true]
    rw [ih]
    simp
theorem wh_ws (i : Int) : ws (wh i) = true := by
  unfold wh
  split
  · decide
  · split
    · decide
    · split <;> decide
theorem wh_cases (i : Int) : wh i = 10 ∨ wh i = 9 ∨ wh i = 13 ∨ wh i = 32 := by
  unfold wh
  split
  · exact .inl rfl
  · split
    · exact .inr (.inl rfl)
    · split
      · exact .inr (.inr (.inl rfl))
      · exact .inr (.inr (.inr rfl))
theorem names_plain : ∀ l ∈ opNames, l ≠ [] ∧ (∀ c ∈ l, plain c = true) := by decide
theorem nums_all : ∀ i : Fin 48, num (opNames.getD i.1 []) = (i.1 : Int) + 7 := by decide +kernel
theorem nmOf_mem {n : Int} (h1 : 7 ≤ n) (h2 : n ≤ 54) : nmOf n ∈ opNames := by
  unfold nmOf
  have : (n - 7).toNat < opNames.length := by
    show (n - 7).toNat < 48
    omega
  simp [List.getD, this]
theorem num_nmOf {n : Int} (h1 : 7 ≤ n) (h2 : n ≤ 54) : num (nmOf n) = n := by
  have := nums_all ⟨(n - 7).toNat, by omega⟩
  unfold nmOf
  rw [this]
  show ((n - 7).toNat : Int) + 7 = n
  omega
theorem tok_formN {n : Int} (h1 : 7 ≤ n) (h2 : n ≤ 54) (st : Int) (r : List Nat) : tokGo (formN (nmOf n) st ++ r) = some (nmOf n, r) := by
  obtain ⟨hne, hpl⟩ := names_plain _ (nmOf_mem h1 h2)
  have hw := wh_ws (st.fmod 4)
  unfold formN
  generalize wh (st.fmod 4) = w at hw ⊢
  generalize nmOf n = l at hne hpl ⊢
  cases l with
  | nil => exact absurd rfl hne
  | cons c l =>
    obtain ⟨p1, p2, p3⟩ := plain_ws (hpl c (List.mem_cons_self ..))
    have hl : ∀ c' ∈ l, plain c' = true := fun c' h' => hpl c' (List.mem_cons_of_mem _ h')
    split
    · simp only [List.cons_append, List.append_assoc, List.nil_append, tokGo, p1, Bool.false_eq_true, if_false, p2, p3]
      rw [bareGo_plain hl hw]
      rfl
    · split
      · have e : esc (c :: l) = 92 :: c :: esc l := rfl
        rw [e]
        simp only [List.cons_append, List.append_assoc, List.nil_append, tokGo, show ws 92 = false from by decide, Bool.false_eq_true, if_false, show ¬ (92 = 34) from by decide, if_true, bareGo]
        rw [bareGo_esc hw]
        rfl
      · split
        · simp only [List.cons_append, List.append_assoc, List.nil_append, tokGo, hw, if_true, show ws 34 = false from by decide, Bool.false_eq_true, if_false]
          have := quoteGo_plain hpl r []
          simpa using this
        · simp only [List.cons_append, List.append_assoc, List.nil_append, tokGo, hw, if_true, show ws 34 = false from by decide, Bool.false_eq_true, if_false]
          have := quoteGo_esc (l := c :: l) r []
          simpa using this
theorem tok_form0 (st : Int) (r : List Nat) : ∃ w, tokGo (form0 st ++ r) = some (w, r) ∧ num w = 0 := by
  have hw := wh_ws (st.fmod 4)
  have hc := wh_cases (st.fmod 4)
  unfold form0
  generalize wh (st.fmod 4) = w at hw hc ⊢
  have hw0 : num [w] = 0 := by rcases hc with rfl | rfl | rfl | rfl <;> decide
  have h34 : w ≠ 34 := by rcases hc with rfl | rfl | rfl | rfl <;> decide
  have h92 : w ≠ 92 := by rcases hc with rfl | rfl | rfl | rfl <;> decide
  split
  · exact ⟨[], by simp [tokGo, quoteGo, show ws 34 = false from by decide], by decide⟩
  · split
    · exact ⟨[w], by simp [tokGo, quoteGo, show ws 34 = false from by decide, h34, h92], hw0⟩
    · split
      · exact ⟨[34], by simp [tokGo, quoteGo, show ws 34 = false from by decide], by decide⟩
      · split
        · exact ⟨[97, 34], by simp [tokGo, bareGo, show ws 34 = false from by decide, show ws 97 = false from by decide, hw], by decide⟩
        · exact ⟨[w], by simp [tokGo, bareGo, show ws 92 = false from by decide, hw], hw0⟩
-- P3
/-! the median of five, in ranks -/
noncomputable def ltN (v : Int) (xs : List Int) : Nat := (xs.filter fun k => decide (k < v)).length
noncomputable def gtN (v : Int) (xs : List Int) : Nat := (xs.filter fun k => decide (v < k)).length
theorem sgs_sum (v : Int) : ∀ xs : List Int, (sgs v xs).sum = (ltN v xs : Int) - gtN v xs ∧ tiesOf v xs = (xs.length : Int) - ltN v xs - gtN v xs
  | [] => ⟨rfl, rfl⟩
  | k :: xs => by
    obtain ⟨h1, h2⟩ := sgs_sum v xs
    unfold tiesOf ltN gtN sgs at *
    rcases Int.lt_trichotomy k v with h | h | h
    · have e1 : decide (k < v) = true := decide_eq_true h
      have e2 : decide (v < k) = false := decide_eq_false (by omega)
      simp only [List.map_cons, List.sum_cons, List.filter_cons, e1, e2, List.length_cons, b2i, if_true, if_false, Bool.false_eq_true] at *
      have e3 : (((1 : Int) - 0) == 0) = false := by decide
      simp only [e3, Bool.false_eq_true, if_false]
      omega
    · subst h
      have e1 : decide (k < k) = false := decide_eq_false (by omega)
      simp only [List.map_cons, List.sum_cons, List.filter_cons, e1, List.length_cons, b2i, if_true, if_false, Bool.false_eq_true] at *
      have e3 : (((0 : Int) - 0) == 0) = true := by decide
      simp only [e3, if_true, List.length_cons]
      omega
    · have e1 : decide (k < v) = false := decide_eq_false (by omega)
      have e2 : decide (v < k) = true := decide_eq_true h
      simp only [List.map_cons, List.sum_cons, List.filter_cons, e1, e2, List.length_cons, b2i, if_true, if_false, Bool.false_eq_true] at *
      have e3 : (((0 : Int) - 1) == 0) = false := by decide
      simp only [e3, Bool.false_eq_true, if_false]
      omega
theorem loC_lt {v : Int} {xs : List Int} (h : xs.length = 5) : loC v xs = decide (ltN v xs ≤ 2) := by
  obtain ⟨h1, h2⟩ := sgs_sum v xs
  unfold loC
  rw [h1, h2, h]
  exact decide_eq_decide.mpr (by omega)
theorem upC_gt {v : Int} {xs : List Int} (h : xs.length = 5) : upC v xs = decide (gtN v xs ≤ 2) := by
  obtain ⟨h1, h2⟩ := sgs_sum v xs
  unfold upC
  rw [h1, h2, h]
  exact decide_eq_decide.mpr (by omega)
theorem pick_filter (c : Int → Bool) (xs : List Int) : pick c xs = xs.filter c := by
  have go : ∀ (xs acc : List Int), xs.foldl (fun acc v => if c v then acc ++ [v] else acc) acc = acc ++ xs.filter c := by
    intro xs
    induction xs with
    | nil => intro acc; simp
    | cons x xs ih =>
      intro acc
      rw [List.foldl_cons, ih]
      cases e : c x <;> simp [e]
  exact (go xs []).trans (List.nil_append _)
noncomputable def loN (ts : List Nat) (v : Nat) : Bool := decide ((ts.filter fun t => decide (t < v)).length ≤ 2)
noncomputable def upN (ts : List Nat) (v : Nat) : Bool := decide ((ts.filter fun t => decide (v < t)).length ≤ 2)
noncomputable def medB (ts : List Nat) (g : Nat) : Bool := ts.contains g && loN ts g && upN ts g && ((ts.filter (loN ts)).all fun a => decide (a ≤ g)) && (ts.filter (upN ts)).all fun a => decide (g ≤ a)
theorem med_all : ((List.range 4).all fun a => (List.range 4).all fun b => (List.range 4).all fun c => (List.range 4).all fun d => (List.range 4).all fun e => (List.range 4).any (medB [a, b, c, d, e])) = true := by decide +kernel
theorem lnF_lt (c : Int) {a b : Nat} (h : a < b) (hb : b < 4) : lnF c a < lnF c b := by
  have := ln_order c
  match b, hb with
  | 0, _ => omega
  | 1, _ => match a, h with
    | 0, _ => show ln0 c < ln1 c; omega
  | 2, _ => match a, h with
    | 0, _ => show ln0 c < ln2 c; omega
    | 1, _ => show ln1 c < ln2 c; omega
  | 3, _ => match a, h with
    | 0, _ => show ln0 c < ln3 c; omega
    | 1, _ => show ln1 c < ln3 c; omega
    | 2, _ => show ln2 c < ln3 c; omega
theorem lnF_iff (c : Int) {a b : Nat} (ha : a < 4) (hb : b < 4) : lnF c a < lnF c b ↔ a < b := by
  constructor
  · intro h
    rcases Nat.lt_trichotomy a b with h1 | h1 | h1
    · exact h1
    · subst h1; omega
    · have := lnF_lt c h1 ha; omega
  · exact fun h => lnF_lt c h hb
theorem lnF_le (c : Int) {a b : Nat} (h : a ≤ b) (hb : b < 4) : lnF c a ≤ lnF c b := by
  rcases Nat.lt_or_eq_of_le h with h | h
  · exact Int.le_of_lt (lnF_lt c h hb)
  · subst h; exact Int.le_refl _
theorem lnF_inj (c : Int) {a b : Nat} (ha : a < 4) (hb : b < 4) (h : lnF c a = lnF c b) : a = b := by
  rcases Nat.lt_trichotomy a b with h1 | h1 | h1
  · have := lnF_lt c h1 hb; omega
  · exact h1
  · have := lnF_lt c h1 ha; omega
theorem ltN_map (c : Int) {ts : List Nat} {v : Nat} (hv : v < 4) (ht : ∀ t ∈ ts, t < 4) : ltN (lnF c v) (ts.map (lnF c)) = (ts.filter fun t => decide (t < v)).length := by
  unfold ltN
  rw [List.filter_map, List.length_map]
  congr 1
  exact List.filter_congr fun t h => decide_eq_decide.mpr (lnF_iff c (ht t h) hv)
theorem gtN_map (c : Int) {ts : List Nat} {v : Nat} (hv : v < 4) (ht : ∀ t ∈ ts, t < 4) : gtN (lnF c v) (ts.map (lnF c)) = (ts.filter fun t => decide (v < t)).length := by
  unfold gtN
  rw [List.filter_map, List.length_map]
  congr 1
  exact List.filter_congr fun t h => decide_eq_decide.mpr (lnF_iff c hv (ht t h))
theorem med5 (c : Int) {t0 t1 t2 t3 t4 : Nat} (h0 : t0 < 4) (h1 : t1 < 4) (h2 : t2 < 4) (h3 : t3 < 4) (h4 : t4 < 4) :
    ∃ g, g ∈ [t0, t1, t2, t3, t4] ∧ loN [t0, t1, t2, t3, t4] g = true ∧ upN [t0, t1, t2, t3, t4] g = true ∧
      MaxIs (pick (fun v => loC v [lnF c t0, lnF c t1, lnF c t2, lnF c t3, lnF c t4]) [lnF c t0, lnF c t1, lnF c t2, lnF c t3, lnF c t4]) (lnF c g) ∧
      MinIs (pick (fun v => upC v [lnF c t0, lnF c t1, lnF c t2, lnF c t3, lnF c t4]) [lnF c t0, lnF c t1, lnF c t2, lnF c t3, lnF c t4]) (lnF c g) := by
  have m := med_all
  simp only [List.all_eq_true, List.mem_range] at m
  have m2 := m t0 h0 t1 h1 t2 h2 t3 h3 t4 h4
  obtain ⟨g, hg4, hg⟩ := List.any_eq_true.mp m2
  have hg4 : g < 4 := List.mem_range.mp hg4
  have ht : ∀ t ∈ [t0, t1, t2, t3, t4], t < 4 := by
    intro t h
    simp only [List.mem_cons, List.not_mem_nil, or_false] at h
    rcases h with rfl | rfl | rfl | rfl | rfl <;> assumption
  show ∃ g, g ∈ [t0, t1, t2, t3, t4] ∧ loN [t0, t1, t2, t3, t4] g = true ∧ upN [t0, t1, t2, t3, t4] g = true ∧ MaxIs (pick (fun v => loC v ([t0, t1, t2, t3, t4].map (lnF c))) ([t0, t1, t2, t3, t4].map (lnF c))) (lnF c g) ∧ MinIs (pick (fun v => upC v ([t0, t1, t2, t3, t4].map (lnF c))) ([t0, t1, t2, t3, t4].map (lnF c))) (lnF c g)
  have hl : ([t0, t1, t2, t3, t4].map (lnF c)).length = 5 := rfl
  generalize hts : [t0, t1, t2, t3, t4] = ts at *
  unfold medB at hg
  simp only [Bool.and_eq_true, List.contains_iff_mem, List.all_eq_true, decide_eq_true_eq] at hg
  obtain ⟨⟨⟨⟨g1, g2⟩, g3⟩, g4⟩, g5⟩ := hg
  refine ⟨g, g1, g2, g3, ?_, ?_⟩
  · rw [pick_filter, List.filter_map]
    have e : ts.filter ((fun v => loC v (ts.map (lnF c))) ∘ lnF c) = ts.filter (loN ts) := List.filter_congr fun t h => by
      show loC (lnF c t) (ts.map (lnF c)) = loN ts t
      rw [loC_lt hl, ltN_map c (ht t h) ht]
      rfl
    rw [e]
    refine ⟨List.mem_map_of_mem (List.mem_filter.mpr ⟨g1, g2⟩), fun a ha => ?_⟩
    obtain ⟨t, h9, rfl⟩ := List.mem_map.mp ha
    exact lnF_le c (g4 t h9) hg4
  · rw [pick_filter, List.filter_map]
    have e : ts.filter ((fun v => upC v (ts.map (lnF c))) ∘ lnF c) = ts.filter (upN ts) := List.filter_congr fun t h => by
      show upC (lnF c t) (ts.map (lnF c)) = upN ts t
      rw [upC_gt hl, gtN_map c (ht t h) ht]
      rfl
    rw [e]
    refine ⟨List.mem_map_of_mem (List.mem_filter.mpr ⟨g1, g3⟩), fun a ha => ?_⟩
    obtain ⟨t, h9, rfl⟩ := List.mem_map.mp ha
    exact lnF_le c (g5 t h9) (ht t (List.mem_filter.mp h9).1)
-- P4
/-! one peak each: no ring of duels -/
noncomputable def PB (b : Int) : List Nat := balL b [0, 1, 2, 3]
noncomputable def PBs (x y z w : Bool) : List Nat := balGo [x, y, z, w] [0, 1, 2, 3] []
noncomputable def IsP (p : List Nat) : Prop := ∃ x y z w, p = PBs x y z w
theorem PB_is (b : Int) : IsP (PB b) := ⟨_, _, _, _, rfl⟩
theorem IsP.perm {p : List Nat} (h : IsP p) : p.length = 4 ∧ (∀ r ∈ p, r < 4) ∧ ∀ r, r < 4 → r ∈ p := by
  obtain ⟨x, y, z, w, rfl⟩ := h
  cases x <;> cases y <;> cases z <;> cases w <;> decide
noncomputable def S4 (s0 s1 s2 s3 : Bool) (r : Nat) : Bool := match r with
  | 0 => s0
  | 1 => s1
  | 2 => s2
  | _ => s3
noncomputable def spkB (p : List Nat) (S : Nat → Bool) : Bool := match p.filter S with
  | [] => true
  | t :: _ => (List.range 4).all fun g => (List.range 4).all fun x => !(S g && S x) || ((!(decide (x < g) && decide (g ≤ t)) || decide (p.idxOf g < p.idxOf x)) && (!(decide (t ≤ g) && decide (g < x)) || decide (p.idxOf g < p.idxOf x)))
theorem spk_all : ∀ x y z w s0 s1 s2 s3 : Bool, spkB (PBs x y z w) (S4 s0 s1 s2 s3) = true := by decide +kernel
noncomputable def Sg (gs : List Nat) (r : Nat) : Bool := !gs.contains r
theorem spk {p : List Nat} (hp : IsP p) {gs : List Nat} {t : Nat} {rr : List Nat} (h : p.filter (Sg gs) = t :: rr) {g x : Nat} (hg : g < 4) (hx : x < 4) (hgs : g ∉ gs) (hxs : x ∉ gs) :
    (x < g → g ≤ t → p.idxOf g < p.idxOf x) ∧ (t ≤ g → g < x → p.idxOf g < p.idxOf x) := by
  have hpm := hp.perm
  obtain ⟨a, b, c, d, rfl⟩ := hp
  have e : ∀ r, r < 4 → Sg gs r = S4 (Sg gs 0) (Sg gs 1) (Sg gs 2) (Sg gs 3) r := by
    intro r hr
    match r, hr with
    | 0, _ => rfl
    | 1, _ => rfl
    | 2, _ => rfl
    | 3, _ => rfl
  have hs := spk_all a b c d (Sg gs 0) (Sg gs 1) (Sg gs 2) (Sg gs 3)
  have ef : (PBs a b c d).filter (S4 (Sg gs 0) (Sg gs 1) (Sg gs 2) (Sg gs 3)) = t :: rr := by
    rw [← h]
    exact List.filter_congr fun r hr => (e r (hpm.2.1 r hr)).symm
  unfold spkB at hs
  rw [ef] at hs
  simp only [List.all_eq_true, List.mem_range] at hs
  have h9 := hs g hg x hx
  rw [← e g hg, ← e x hx] at h9
  have eg : Sg gs g = true := by simp [Sg, hgs]
  have ex : Sg gs x = true := by simp [Sg, hxs]
  rw [eg, ex] at h9
  simp only [Bool.and_self, Bool.not_true, Bool.false_or, Bool.and_eq_true, Bool.or_eq_true, Bool.not_eq_true', Bool.and_eq_false_iff, decide_eq_false_iff_not, decide_eq_true_eq] at h9
  constructor
  · intro h1 h2
    rcases h9.1 with (h | h) | h
    · exact absurd h1 h
    · exact absurd h2 h
    · exact h
  · intro h1 h2
    rcases h9.2 with (h | h) | h
    · exact absurd h1 h
    · exact absurd h2 h
    · exact h
theorem filter_split {α : Type} (q : α → Bool) : ∀ l : List α, (l.filter q).length + (l.filter fun x => !q x).length = l.length
  | [] => rfl
  | a :: l => by
    have := filter_split q l
    cases e : q a <;> simp [e] <;> omega
theorem filter_mono {α : Type} {q r : α → Bool} : ∀ {l : List α}, (∀ x ∈ l, q x = true → r x = true) → (l.filter q).length ≤ (l.filter r).length
  | [], _ => Nat.le_refl _
  | a :: l, h => by
    have ih := filter_mono (l := l) fun x hx => h x (List.mem_cons_of_mem _ hx)
    have h0 := h a (List.mem_cons_self ..)
    cases e : q a with
    | true =>
      rw [List.filter_cons_of_pos e, List.filter_cons_of_pos (h0 e)]
      simpa using ih
    | false =>
      rw [List.filter_cons_of_neg (by simp [e])]
      cases e2 : r a with
      | true => rw [List.filter_cons_of_pos e2]; simp only [List.length_cons]; omega
      | false => rw [List.filter_cons_of_neg (by simp [e2])]; exact ih
noncomputable def hdR (gs p : List Nat) : Nat := (p.filter (Sg gs)).headD 0
theorem hd_ok {p gs : List Nat} (hp : IsP p) (hr : ∃ r, r < 4 ∧ r ∉ gs) : ∃ rr, p.filter (Sg gs) = hdR gs p :: rr ∧ hdR gs p < 4 ∧ hdR gs p ∉ gs := by
  obtain ⟨r, hr4, hrg⟩ := hr
  obtain ⟨h1, h2, h3⟩ := hp.perm
  have hm : r ∈ p.filter (Sg gs) := List.mem_filter.mpr ⟨h3 r hr4, by simp [Sg, hrg]⟩
  unfold hdR
  cases e : p.filter (Sg gs) with
  | nil => rw [e] at hm; cases hm
  | cons t rr =>
    have ht : t ∈ p.filter (Sg gs) := by rw [e]; exact List.mem_cons_self ..
    obtain ⟨h4, h5⟩ := List.mem_filter.mp ht
    exact ⟨rr, rfl, h2 t h4, by simpa [Sg] using h5⟩
/-- who goes when `gs` have gone -/
theorem black_step (c : Int) {p0 p1 p2 p3 p4 gs : List Nat} (h0 : IsP p0) (h1 : IsP p1) (h2 : IsP p2) (h3 : IsP p3) (h4 : IsP p4) (hr : ∃ r, r < 4 ∧ r ∉ gs) :
    ∃ g, g < 4 ∧ g ∉ gs ∧
      MaxIs (pick (fun v => loC v [lnF c (hdR gs p0), lnF c (hdR gs p1), lnF c (hdR gs p2), lnF c (hdR gs p3), lnF c (hdR gs p4)]) [lnF c (hdR gs p0), lnF c (hdR gs p1), lnF c (hdR gs p2), lnF c (hdR gs p3), lnF c (hdR gs p4)]) (lnF c g) ∧
      MinIs (pick (fun v => upC v [lnF c (hdR gs p0), lnF c (hdR gs p1), lnF c (hdR gs p2), lnF c (hdR gs p3), lnF c (hdR gs p4)]) [lnF c (hdR gs p0), lnF c (hdR gs p1), lnF c (hdR gs p2), lnF c (hdR gs p3), lnF c (hdR gs p4)]) (lnF c g) ∧
      ∀ x, x < 4 → x ∉ gs → x ≠ g → 3 ≤ ([p0, p1, p2, p3, p4].filter fun p => decide (p.idxOf g < p.idxOf x)).length := by
  obtain ⟨_, e0, k0, n0⟩ := hd_ok h0 hr
  obtain ⟨_, e1, k1, n1⟩ := hd_ok h1 hr
  obtain ⟨_, e2, k2, n2⟩ := hd_ok h2 hr
  obtain ⟨_, e3, k3, n3⟩ := hd_ok h3 hr
  obtain ⟨_, e4, k4, n4⟩ := hd_ok h4 hr
  obtain ⟨g, hg, hlo, hup, hmax, hmin⟩ := med5 c k0 k1 k2 k3 k4
  have hg4 : g < 4 ∧ g ∉ gs := by
    simp only [List.mem_cons, List.not_mem_nil, or_false] at hg
    rcases hg with rfl | rfl | rfl | rfl | rfl
    · exact ⟨k0, n0⟩
    · exact ⟨k1, n1⟩
    · exact ⟨k2, n2⟩
    · exact ⟨k3, n3⟩
    · exact ⟨k4, n4⟩
  refine ⟨g, hg4.1, hg4.2, hmax, hmin, fun x hx hxs hne => ?_⟩
  have hall : ∀ p ∈ [p0, p1, p2, p3, p4], IsP p ∧ ∃ rr, p.filter (Sg gs) = hdR gs p :: rr := by
    intro p hp
    simp only [List.mem_cons, List.not_mem_nil, or_false] at hp
    rcases hp with rfl | rfl | rfl | rfl | rfl
    · exact ⟨h0, _, e0⟩
    · exact ⟨h1, _, e1⟩
    · exact ⟨h2, _, e2⟩
    · exact ⟨h3, _, e3⟩
    · exact ⟨h4, _, e4⟩
  have hl5 : [p0, p1, p2, p3, p4].length = 5 := rfl
  have hlo' : (([p0, p1, p2, p3, p4].map (hdR gs)).filter fun t => decide (t < g)).length ≤ 2 := of_decide_eq_true hlo
  have hup' : (([p0, p1, p2, p3, p4].map (hdR gs)).filter fun t => decide (g < t)).length ≤ 2 := of_decide_eq_true hup
  generalize [p0, p1, p2, p3, p4] = ps at hall hl5 hlo' hup' ⊢
  rw [List.filter_map, List.length_map] at hlo' hup'
  rcases Nat.lt_or_gt_of_ne hne with hlt | hlt
  · have hs := filter_split ((fun t => decide (t < g)) ∘ hdR gs) ps
    refine Nat.le_trans (show 3 ≤ (ps.filter fun p => !((fun t => decide (t < g)) ∘ hdR gs) p).length by omega) (filter_mono fun p hp hq => ?_)
    obtain ⟨hi, rr, hrr⟩ := hall p hp
    have hq' : ¬ (hdR gs p < g) := by simpa using hq
    exact decide_eq_true ((spk hi hrr hg4.1 hx hg4.2 hxs).1 hlt (by omega))
  · have hs := filter_split ((fun t => decide (g < t)) ∘ hdR gs) ps
    refine Nat.le_trans (show 3 ≤ (ps.filter fun p => !((fun t => decide (g < t)) ∘ hdR gs) p).length by omega) (filter_mono fun p hp hq => ?_)
    obtain ⟨hi, rr, hrr⟩ := hall p hp
    have hq' : ¬ (g < hdR gs p) := by simpa using hq
    exact decide_eq_true ((spk hi hrr hg4.1 hx hg4.2 hxs).2 (by omega) hlt)
theorem free3 : ∀ a b c : Fin 4, ∃ r : Fin 4, r ≠ a ∧ r ≠ b ∧ r ≠ c := by decide
theorem free_of {gs : List Nat} {a b c : Nat} (ha : a < 4) (hb : b < 4) (hc : c < 4) (h : ∀ r ∈ gs, r = a ∨ r = b ∨ r = c) : ∃ r, r < 4 ∧ r ∉ gs := by
  obtain ⟨r, h1, h2, h3⟩ := free3 ⟨a, ha⟩ ⟨b, hb⟩ ⟨c, hc⟩
  refine ⟨r.1, r.2, fun hm => ?_⟩
  rcases h r.1 hm with e | e | e
  · exact h1 (Fin.ext e)
  · exact h2 (Fin.ext e)
  · exact h3 (Fin.ext e)
noncomputable def MedAt (c : Int) (p0 p1 p2 p3 p4 gs : List Nat) (g : Nat) : Prop :=
  MaxIs (pick (fun v => loC v [lnF c (hdR gs p0), lnF c (hdR gs p1), lnF c (hdR gs p2), lnF c (hdR gs p3), lnF c (hdR gs p4)]) [lnF c (hdR gs p0), lnF c (hdR gs p1), lnF c (hdR gs p2), lnF c (hdR gs p3), lnF c (hdR gs p4)]) (lnF c g) ∧
  MinIs (pick (fun v => upC v [lnF c (hdR gs p0), lnF c (hdR gs p1), lnF c (hdR gs p2), lnF c (hdR gs p3), lnF c (hdR gs p4)]) [lnF c (hdR gs p0), lnF c (hdR gs p1), lnF c (hdR gs p2), lnF c (hdR gs p3), lnF c (hdR gs p4)]) (lnF c g)
theorem black (c : Int) {p0 p1 p2 p3 p4 : List Nat} (h0 : IsP p0) (h1 : IsP p1) (h2 : IsP p2) (h3 : IsP p3) (h4 : IsP p4) :
    ∃ G : Nat → Nat, (∀ i, i < 4 → G i < 4) ∧ (∀ i j, j < 4 → i < j → G i ≠ G j) ∧
      (∀ k, k < 4 → (∃ r, r < 4 ∧ r ∉ (List.range k).map G) ∧ MedAt c p0 p1 p2 p3 p4 ((List.range k).map G) (G k)) ∧
      ∀ i j, j < 4 → i < j → 3 ≤ ([p0, p1, p2, p3, p4].filter fun p => decide (p.idxOf (G i) < p.idxOf (G j))).length := by
  have f0 : ∃ r, r < 4 ∧ r ∉ ([] : List Nat) := ⟨0, by omega, by simp⟩
  obtain ⟨g0, l0, _, a0, b0, d0⟩ := black_step c h0 h1 h2 h3 h4 f0
  have f1 : ∃ r, r < 4 ∧ r ∉ [g0] := free_of l0 l0 l0 (by intro r hr; exact .inl (List.mem_singleton.mp hr))
  obtain ⟨g1, l1, n1, a1, b1, d1⟩ := black_step c h0 h1 h2 h3 h4 f1
  have f2 : ∃ r, r < 4 ∧ r ∉ [g0, g1] := free_of l0 l1 l1 (by intro r hr; simp only [List.mem_cons, List.not_mem_nil, or_false] at hr; rcases hr with h | h; exact .inl h; exact .inr (.inl h))
  obtain ⟨g2, l2, n2, a2, b2, d2⟩ := black_step c h0 h1 h2 h3 h4 f2
  have f3 : ∃ r, r < 4 ∧ r ∉ [g0, g1, g2] := free_of l0 l1 l2 (by intro r hr; simpa using hr)
  obtain ⟨g3, l3, n3, a3, b3, d3⟩ := black_step c h0 h1 h2 h3 h4 f3
  simp only [List.mem_cons, List.not_mem_nil, or_false, not_or] at n1 n2 n3
  refine ⟨fun k => match k with | 0 => g0 | 1 => g1 | 2 => g2 | _ => g3, ?_, ?_, ?_, ?_⟩
  · intro i hi
    match i, hi with
    | 0, _ => exact l0
    | 1, _ => exact l1
    | 2, _ => exact l2
    | 3, _ => exact l3
  · intro i j hj hij
    match i, j, hj, hij with
    | 0, 1, _, _ => exact fun e => n1 e.symm
    | 0, 2, _, _ => exact fun e => n2.1 e.symm
    | 0, 3, _, _ => exact fun e => n3.1 e.symm
    | 1, 2, _, _ => exact fun e => n2.2 e.symm
    | 1, 3, _, _ => exact fun e => n3.2.1 e.symm
    | 2, 3, _, _ => exact fun e => n3.2.2 e.symm
    | i + 3, j, hj, hij => exact absurd hj (by omega)
  · intro k hk
    match k, hk with
    | 0, _ => exact ⟨f0, a0, b0⟩
    | 1, _ => exact ⟨f1, a1, b1⟩
    | 2, _ => exact ⟨f2, a2, b2⟩
    | 3, _ => exact ⟨f3, a3, b3⟩
  · intro i j hj hij
    match i, j, hj, hij with
    | 0, 1, _, _ => exact d0 g1 l1 (by simp) n1
    | 0, 2, _, _ => exact d0 g2 l2 (by simp) n2.1
    | 0, 3, _, _ => exact d0 g3 l3 (by simp) n3.1
    | 1, 2, _, _ => exact d1 g2 l2 (by simp [n2.1]) n2.2
    | 1, 3, _, _ => exact d1 g3 l3 (by simp [n3.1]) n3.2.1
    | 2, 3, _, _ => exact d2 g3 l3 (by simp [n3.1, n3.2.1]) n3.2.2
    | i + 3, j, hj, hij => exact absurd hj (by omega)
-- P5
/-! what is read, round by round -/
theorem reads_pb (rest : List (List Nat)) (r : List Nat) : ∀ ws : List (List Nat), (∀ w ∈ ws, num w ≠ 0) → Reads (ws ++ [[]] ++ rest, r) ws (rest, r)
  | [], _ => .stop (w := []) rfl rfl
  | w :: ws, h => .go (σ1 := (ws ++ [[]] ++ rest, r)) (w := w) rfl (h w (List.mem_cons_self ..)) (reads_pb rest r ws fun x hx => h x (List.mem_cons_of_mem _ hx))
theorem reads_text (sp : Int) (rest : List Nat) : ∀ (ns : List Int) (st : Int), (∀ n ∈ ns, 7 ≤ n ∧ n ≤ 54) → Reads ([], txtGo sp st (ns ++ [0]) ++ rest) (ns.map nmOf) ([], rest)
  | [], st, _ => by
    obtain ⟨w, h1, h2⟩ := tok_form0 ((st + sp).fmod 36) rest
    refine .stop (w := w) ?_ h2
    show nextTok ([], ((if (0 : Int) = 0 then form0 ((st + sp).fmod 36) else formN (nmOf 0) ((st + sp).fmod 36)) ++ []) ++ rest) = _
    rw [if_pos rfl, List.append_nil]
    simp only [nextTok, h1]
  | n :: ns, st, h => by
    obtain ⟨h7, h54⟩ := h n (List.mem_cons_self ..)
    refine .go (σ1 := ([], txtGo sp ((st + sp).fmod 36) (ns ++ [0]) ++ rest)) (w := nmOf n) ?_ (by rw [num_nmOf h7 h54]; omega) (reads_text sp rest ns _ fun x hx => h x (List.mem_cons_of_mem _ hx))
    show nextTok ([], ((if n = 0 then form0 ((st + sp).fmod 36) else formN (nmOf n) ((st + sp).fmod 36)) ++ txtGo sp ((st + sp).fmod 36) (ns ++ [0])) ++ rest) = _
    rw [if_neg (by omega), List.append_assoc]
    simp only [nextTok, tok_formN h7 h54]
noncomputable def nmL (c : Int) (R : List Nat) : List (List Nat) := R.map fun r => nmOf (lnF c r)
theorem num_nm (c : Int) (r : Nat) : num (nmOf (lnF c r)) = lnF c r := num_nmOf (lnF_range c r).1 (lnF_range c r).2
theorem nm_ne (c : Int) (R : List Nat) : ∀ w ∈ nmL c R, num w ≠ 0 := by
  intro w hw
  obtain ⟨r, _, rfl⟩ := List.mem_map.mp hw
  show num (nmOf (lnF c r)) ≠ 0
  rw [num_nm]
  have := (lnF_range c r).1
  omega
theorem push_nm (c : Int) {p gs : List Nat} {g : Nat} (hp : ∀ r ∈ p, r < 4) (hg : g < 4) :
    (nmL c (p.filter (Sg gs))).filter (fun x => !decide (num x = lnF c g)) = nmL c (p.filter (Sg (gs ++ [g]))) := by
  unfold nmL
  rw [List.filter_map]
  congr 1
  rw [List.filter_filter]
  refine List.filter_congr fun r hr => ?_
  show (!decide (num (nmOf (lnF c r)) = lnF c g) && Sg gs r) = Sg (gs ++ [g]) r
  rw [num_nm]
  have e : decide (lnF c r = lnF c g) = decide (r = g) := decide_eq_decide.mpr ⟨fun h => lnF_inj c (hp r hr) hg h, fun h => by rw [h]⟩
  rw [e]
  unfold Sg
  by_cases h1 : r = g
  · subst h1; simp
  · by_cases h2 : r ∈ gs <;> simp [h1, h2]
noncomputable def flatR (c : Int) (p0 p1 p2 p3 p4 gs : List Nat) : List (List Nat) := [p0, p1, p2, p3, p4].flatMap fun p => nmL c (p.filter (Sg gs)) ++ [[]]
theorem fm_congr {α β : Type} {f g : α → List β} : ∀ {l : List α}, (∀ x ∈ l, f x = g x) → l.flatMap f = l.flatMap g
  | [], _ => rfl
  | x :: l, h => by
    rw [List.flatMap_cons, List.flatMap_cons, h x (List.mem_cons_self ..), fm_congr fun y hy => h y (List.mem_cons_of_mem _ hy)]
noncomputable def opsL (c : Int) (p0 p1 p2 p3 p4 gs : List Nat) : List (List (List Nat)) := [p0, p1, p2, p3, p4].map fun p => nmL c (p.filter (Sg gs))
theorem hd_nm (c : Int) {p gs rr : List Nat} (e : p.filter (Sg gs) = hdR gs p :: rr) : num ((nmL c (p.filter (Sg gs))).headD []) = lnF c (hdR gs p) := by
  rw [e]
  exact num_nm c _
/-- one round, whatever the words are read from -/
theorem rnd_of (c : Int) {p0 p1 p2 p3 p4 gs : List Nat} {g : Nat} {σ : List (List Nat) × List Nat} {r5 : List Nat} (h0 : IsP p0) (h1 : IsP p1) (h2 : IsP p2) (h3 : IsP p3) (h4 : IsP p4) (hr : ∃ r, r < 4 ∧ r ∉ gs) (hg : g < 4) (hm : MedAt c p0 p1 p2 p3 p4 gs g)
    (R : ReadsL σ (opsL c p0 p1 p2 p3 p4 gs) ([], r5)) : Rnd σ (lnF c g) (flatR c p0 p1 p2 p3 p4 (gs ++ [g]), r5) := by
  obtain ⟨q0, e0, _, _⟩ := hd_ok h0 hr
  obtain ⟨q1, e1, _, _⟩ := hd_ok h1 hr
  obtain ⟨q2, e2, _, _⟩ := hd_ok h2 hr
  obtain ⟨q3, e3, _, _⟩ := hd_ok h3 hr
  obtain ⟨q4, e4, _, _⟩ := hd_ok h4 hr
  have eh : hdsOf (opsL c p0 p1 p2 p3 p4 gs) = [lnF c (hdR gs p0), lnF c (hdR gs p1), lnF c (hdR gs p2), lnF c (hdR gs p3), lnF c (hdR gs p4)] := by
    show [num ((nmL c (p0.filter (Sg gs))).headD []), num ((nmL c (p1.filter (Sg gs))).headD []), num ((nmL c (p2.filter (Sg gs))).headD []), num ((nmL c (p3.filter (Sg gs))).headD []), num ((nmL c (p4.filter (Sg gs))).headD [])] = _
    rw [hd_nm c e0, hd_nm c e1, hd_nm c e2, hd_nm c e3, hd_nm c e4]
  have ip : ∀ p ∈ [p0, p1, p2, p3, p4], IsP p := by
    intro p hp
    simp only [List.mem_cons, List.not_mem_nil, or_false] at hp
    rcases hp with rfl | rfl | rfl | rfl | rfl <;> assumption
  have ef : flatR c p0 p1 p2 p3 p4 (gs ++ [g]) = (opsL c p0 p1 p2 p3 p4 gs).flatMap fun o => (o.filter fun x => !decide (num x = lnF c g)) ++ [[]] := by
    unfold flatR opsL
    rw [List.flatMap_map]
    exact fm_congr fun p hp => by rw [push_nm c (ip p hp).perm.2.1 hg]
  rw [ef]
  refine .mk R rfl (fun o ho => ?_) (by rw [eh]; exact hm.1) (by rw [eh]; exact hm.2)
  obtain ⟨p, hp, rfl⟩ := List.mem_map.mp ho
  refine ⟨?_, nm_ne c _⟩
  obtain ⟨q, e, _, _⟩ := hd_ok (ip p hp) hr
  rw [e]
  exact List.cons_ne_nil _ _
theorem len_ops (c : Int) {p gs : List Nat} (hp : IsP p) : (nmL c (p.filter (Sg gs))).length ≤ 4 := by
  have a := List.length_filter_le (Sg gs) p
  rw [hp.perm.1] at a
  unfold nmL
  rw [List.length_map]
  exact a
theorem reads_flat (c : Int) (gs : List Nat) : ∀ ps : List (List Nat), (∀ p ∈ ps, IsP p) → ReadsL (ps.flatMap fun p => nmL c (p.filter (Sg gs)) ++ [[]], []) (ps.map fun p => nmL c (p.filter (Sg gs))) ([], [])
  | [], _ => .nil
  | p :: ps, h => .cons (reads_pb _ [] _ (nm_ne c _)) (len_ops c (h p (List.mem_cons_self ..))) (reads_flat c gs ps fun q hq => h q (List.mem_cons_of_mem _ hq))
theorem reads_body (c sp : Int) : ∀ (ps : List (List Nat)) (st : Int), (∀ p ∈ ps, IsP p) → ReadsL ([], bodyGo sp st (ps.map fun p => p.map (lnF c))) (ps.map fun p => nmL c (p.filter (Sg []))) ([], [])
  | [], _, _ => .nil
  | p :: ps, st, h => by
    have hp := h p (List.mem_cons_self ..)
    refine .cons (σ1 := ([], bodyGo sp (stGo sp st (p.map (lnF c) ++ [0])) (ps.map fun p => p.map (lnF c)))) ?_ (len_ops c hp) (reads_body c sp ps _ fun q hq => h q (List.mem_cons_of_mem _ hq))
    have e : p.filter (Sg []) = p := List.filter_eq_self.mpr fun r _ => rfl
    show Reads _ (nmL c (p.filter (Sg []))) _
    rw [e]
    have := reads_text sp (bodyGo sp (stGo sp st (p.map (lnF c) ++ [0])) (ps.map fun p => p.map (lnF c))) (p.map (lnF c)) st (fun n hn => by
      obtain ⟨r, _, rfl⟩ := List.mem_map.mp hn
      exact lnF_range c r)
    rw [List.map_map] at this
    exact this
theorem range_snoc (G : Nat → Nat) (k : Nat) : (List.range (k + 1)).map G = (List.range k).map G ++ [G k] := by
  rw [List.range_succ, List.map_append]
  rfl
/-- the whole of the reading: five ballots as a text, four rounds -/
theorem plan (c st sp : Int) {p0 p1 p2 p3 p4 : List Nat} (h0 : IsP p0) (h1 : IsP p1) (h2 : IsP p2) (h3 : IsP p3) (h4 : IsP p4) :
    ∃ (σ : Nat → List (List Nat) × List Nat) (G : Nat → Nat), σ 0 = ([], bodyGo sp st ([p0, p1, p2, p3, p4].map fun p => p.map (lnF c))) ∧ (σ 4).2 = [] ∧
      (∀ i, i < 4 → Rnd (σ i) (lnF c (G i)) (σ (i + 1))) ∧ (∀ i, i < 4 → G i < 4) ∧ (∀ i j, j < 4 → i < j → G i ≠ G j) ∧
      ∀ i j, j < 4 → i < j → 3 ≤ ([p0, p1, p2, p3, p4].filter fun p => decide (p.idxOf (G i) < p.idxOf (G j))).length := by
  obtain ⟨G, g1, g2, g3, g4⟩ := black c h0 h1 h2 h3 h4
  have ip : ∀ p ∈ [p0, p1, p2, p3, p4], IsP p := by
    intro p hp
    simp only [List.mem_cons, List.not_mem_nil, or_false] at hp
    rcases hp with rfl | rfl | rfl | rfl | rfl <;> assumption
  refine ⟨fun k => match k with | 0 => ([], bodyGo sp st ([p0, p1, p2, p3, p4].map fun p => p.map (lnF c))) | k + 1 => (flatR c p0 p1 p2 p3 p4 ((List.range (k + 1)).map G), []), G, rfl, rfl, ?_, g1, g2, g4⟩
  intro i hi
  obtain ⟨hr, hm⟩ := g3 i hi
  cases i with
  | zero => exact rnd_of c h0 h1 h2 h3 h4 hr (g1 0 hi) hm (reads_body c sp _ st ip)
  | succ k =>
    have := rnd_of c (σ := (flatR c p0 p1 p2 p3 p4 ((List.range (k + 1)).map G), [])) h0 h1 h2 h3 h4 hr (g1 _ hi) hm (reads_flat c _ _ ip)
    rw [← range_snoc] at this
    exact this
-- E2
section
noncomputable def duelFor : Option (Scope × Stmt) := match lawOf with
  | some (sc, _ :: _ :: _ :: _ :: _ :: _ :: _ :: _ :: _ :: q :: _) => some (sc, q)
  | _ => none
noncomputable def duelIn : Option (Scope × Stmt) := match duelFor with
  | some (sc, Stmt.For _ _ (q :: _) _ _) => some (sc, q)
  | _ => none
noncomputable def duelIf : Option (Scope × List Stmt) := match duelIn with
  | some (sc, Stmt.For _ _ q _ _) => some (sc, q)
  | _ => none
noncomputable def duelComp : Option (Scope × Expr × Expr × Scope) := match duelIf with
  | some (sc, Stmt.If (Expr.Compare (Expr.Call _ [Expr.ListComp e [⟨_, _, [t], _⟩] csc _] _ _) _ _ _) _ _ _ :: _) => some (sc, t, e, csc)
  | _ => none
section
variable {prog : Program} {w : World} {A : Around} {E : Value → Shared → Prop} {s : Shared} {h₀ : Heap} {L l : Addr} {m : Str → Option Value} {news : List (Addr × Obj)}
theorem at_item {value slice : Expr} {xs : Array Value} {v : Value} {u : Tok} {k : Int} {n : Nat} {Q : Value → Shared → Prop} (N : News h₀ L s.heap news) (hm : (l, listOf xs n) ∈ news) (h0 : 0 ≤ k) (hf : k < 2 ^ 63) (hx : xs[k.toNat]? = some v) (h : Q v s)
    (hs : subscripted slice false (.ref l) (.int k u) = operate [.ref l, .int k u] (getItem (.ref l) (.int k u)) := by with_unfolding_all rfl) (hg : ∀ r, letTemporaryGo value (.ref l) r = pure () := by intro _; with_unfolding_all rfl) :
    wpAny (model prog w) A (subscriptTail value slice (.ref l) (.int k u)) Q E s :=
  item_list (k := k) (items := xs) ⟨_, (N _ hm).1, rfl, n, rfl⟩ h0 hf hx h hs hg
end
set_option maxHeartbeats 8000000 in
theorem duel_test {w : World} {A₀ : Around} {base g : Heap} {L1 fa : Addr} {cd : Value} {mg mb : Str → Option Value} {s : Shared} {E : Value → Shared → Prop} {p : Program} {loose : List Str} {mean : ExcName → Option Value} {nm : Str} {sc : Scope} {Q : Bool → Shared → Prop} {csc : Scope} {e t : Expr} {C b gl : Addr} {oC og ok ol : Obj} {m m2 : Str → Option Value} {xs : Array Value} {vs : List Value} {gn n : Nat} {led : List (Addr × Obj)} {k x y : Int} {tk tx ty : Tok} {jx jy : Nat}
    (hP : duelComp = some (sc, t, e, csc)) (B1 : Below A₀ base [] g) (F0 : Fr g L1 s.heap m) (X1 : (Mine.KL w.params).In g)
    (N0 : News g L1 s.heap ((C, oC) :: (b, listOf vs.toArray n) :: (gl, listOf xs gn) :: (L1 + 1 + 1 + 1 + 1 + 1, ol) :: (L1 + 1 + 1 + 1 + 1, og) :: (L1 + 1 + 1 + 1, ok) :: led)) (T1 : Top p loose mean mg mb g) (hC : LCg.NsObj oC m2) (hx : m2 (Str.ofString "ballot") = some (.ref b))
    (hdg : og.data = .cell (some (.ref gl))) (hdk : ok.data = .cell (some (.int k tk))) (hdl : ol.data = .cell (some (.int y ty))) (h0 : 0 ≤ k) (hf : k < 2 ^ 63) (hxk : xs[k.toNat]? = some (.int x tx))
    (hi : kf_ints vs = true) (hjx : kf_at x vs = some jx) (hjy : kf_at y vs = some jy) (hz : vs.length ≤ sizeLine)
    (hret : ∀ tk', Q (decide ((jx : Int) < jy)) { s with toks := tk' }) :
    wpAny (model PySem.Challenge.rw_st0010_01.row.prog w) (callerA.deeper (envOfC nm sc L1 fa cd)) (isTrue t (compEnvC csc [(Str.ofString "later", L1 + 1 + 1 + 1 + 1 + 1), (Str.ofString "k", L1 + 1 + 1 + 1), (Str.ofString "gone", L1 + 1 + 1 + 1 + 1)] C (envOfC nm sc L1 fa cd)) (eval t (compEnvC csc [(Str.ofString "later", L1 + 1 + 1 + 1 + 1 + 1), (Str.ofString "k", L1 + 1 + 1 + 1), (Str.ofString "gone", L1 + 1 + 1 + 1 + 1)] C (envOfC nm sc L1 fa cd)))) Q E s := by
  obtain ⟨h0, g0, r0, k0, o0⟩ := s
  dsimp only at F0 N0 hret ⊢
  conv at hP => lhs; whnf
  injection hP with hP
  injection hP with hP1 hP2
  injection hP2 with hP2 hP3
  injection hP3 with hP3 hP4
  subst hP1 hP2 hP3 hP4
  revert X1; k_fill; intro X1
  repeat' ((fail_if_success (with_reducible show ∃ _, _)); (fail_if_success (with_reducible show LeaveK h₀ _ _ _ _ _ _)); (fail_if_success (with_reducible show wpAny _ _ (call (Value.ref 94) _) _ _ _)); (fail_if_success (with_reducible show wpAny _ _ (call (Value.ref 101) _) _ _ _)); (fail_if_success (with_reducible show wpAny _ _ (call (Value.ref 106) _) _ _ _)); (fail_if_success (with_reducible show wpAny _ _ (call (Value.ref 87) _) _ _ _)); (fail_if_success (with_reducible show wpAny _ _ (call (Value.ref 113) _) _ _ _)); (fail_if_success (with_reducible show wpAny _ _ (call (Value.ref 118) _) _ _ _)); (fail_if_success (with_reducible show wpAny _ _ (call (Value.ref 56) _) _ _ _)); first | (k_unfold; (try dsimp only)) | (k_end; wrow_close) | (first | (with_reducible ((k_here; (with_reducible show wpAny _ _ (subscriptTail _ _ (Value.ref _) (Value.int _ _)) _ _ _); k_dflt (refine' at_item ?N ?hm ?h0 ?hf ?hx ?_; (case N => k_asm); (case hm => k_mem); (case h0 => assumption); (case hf => assumption); (case hx => assumption))))) | ((with_reducible show wpAny _ _ (call (Value.builtin "list.index") _) _ _ _); with_reducible ((k_here; (with_reducible show wpAny _ _ (call (Value.builtin _) [Value.ref _, Value.int _ _]) _ _ _); k_dflt (refine' kf_index ?N ?m ?i ?e ?c ?z ?_; (case N => k_asm); (case m => k_mem); (case i => assumption); (case e => assumption); (case c => exact rfl); (case z => assumption))))) | walk1) | (dsimp only; (first | (with_reducible ((k_here; (with_reducible show wpAny _ _ (subscriptTail _ _ (Value.ref _) (Value.int _ _)) _ _ _); k_dflt (refine' at_item ?N ?hm ?h0 ?hf ?hx ?_; (case N => k_asm); (case hm => k_mem); (case h0 => assumption); (case hf => assumption); (case hx => assumption))))) | ((with_reducible show wpAny _ _ (call (Value.builtin "list.index") _) _ _ _); with_reducible ((k_here; (with_reducible show wpAny _ _ (call (Value.builtin _) [Value.ref _, Value.int _ _]) _ _ _); k_dflt (refine' kf_index ?N ?m ?i ?e ?c ?z ?_; (case N => k_asm); (case m => k_mem); (case i => assumption); (case e => assumption); (case c => exact rfl); (case z => assumption))))) | walk1)) | (leave1; walk_say "STEP leave1"; try dsimp only) | fail "no step")
  exact hret _
structure Bal where
  a : Addr
  vs : List Value
  n : Nat
noncomputable def balRef (x : Bal) : Value := .ref x.a
noncomputable def balObj (x : Bal) : Addr × Obj := (x.a, listOf x.vs.toArray x.n)
noncomputable def duelR (x y : Int) (b : Bal) : Bool := match kf_at x b.vs, kf_at y b.vs with
  | some i, some j => decide (i < j)
  | _, _ => false
noncomputable def BalOk (x y : Int) (b : Bal) : Prop := kf_ints b.vs = true ∧ (∃ i, kf_at x b.vs = some i) ∧ (∃ j, kf_at y b.vs = some j) ∧ b.vs.length ≤ sizeLine
set_option maxHeartbeats 8000000 in
theorem duel_elt {w : World} {A₀ : Around} {base g : Heap} {L1 fa : Addr} {cd : Value} {mg mb : Str → Option Value} {s : Shared} {E : Value → Shared → Prop} {p : Program} {loose : List Str} {mean : ExcName → Option Value} {nm : Str} {sc : Scope} {Q : Value → Shared → Prop} {csc : Scope} {e t : Expr} {C : Addr} {v : Value} {oC : Obj} {m m2 : Str → Option Value} {led : List (Addr × Obj)}
    (hP : duelComp = some (sc, t, e, csc)) (B1 : Below A₀ base [] g) (F0 : Fr g L1 s.heap m) (X1 : (Mine.KL w.params).In g)
    (N0 : News g L1 s.heap ((C, oC) :: led)) (T1 : Top p loose mean mg mb g) (hC : LCg.NsObj oC m2) (hx : m2 (Str.ofString "ballot") = some v)
    (hret : Q v s) :
    wpAny (model PySem.Challenge.rw_st0010_01.row.prog w) (callerA.deeper (envOfC nm sc L1 fa cd)) (eval e (compEnvC csc [(Str.ofString "later", L1 + 1 + 1 + 1 + 1 + 1), (Str.ofString "k", L1 + 1 + 1 + 1), (Str.ofString "gone", L1 + 1 + 1 + 1 + 1)] C (envOfC nm sc L1 fa cd))) Q E s := by
  obtain ⟨h0, g0, r0, k0, o0⟩ := s
  dsimp only at F0 N0 hret ⊢
  conv at hP => lhs; whnf
  injection hP with hP
  injection hP with hP1 hP2
  injection hP2 with hP2 hP3
  injection hP3 with hP3 hP4
  subst hP1 hP2 hP3 hP4
  revert X1; k_fill; intro X1
  repeat' ((fail_if_success (with_reducible show ∃ _, _)); (fail_if_success (with_reducible show LeaveK h₀ _ _ _ _ _ _)); (fail_if_success (with_reducible show wpAny _ _ (call (Value.ref 94) _) _ _ _)); (fail_if_success (with_reducible show wpAny _ _ (call (Value.ref 101) _) _ _ _)); (fail_if_success (with_reducible show wpAny _ _ (call (Value.ref 106) _) _ _ _)); (fail_if_success (with_reducible show wpAny _ _ (call (Value.ref 87) _) _ _ _)); (fail_if_success (with_reducible show wpAny _ _ (call (Value.ref 113) _) _ _ _)); (fail_if_success (with_reducible show wpAny _ _ (call (Value.ref 118) _) _ _ _)); (fail_if_success (with_reducible show wpAny _ _ (call (Value.ref 56) _) _ _ _)); first | (k_unfold; (try dsimp only)) | (k_end; wrow_close) | (first | (with_reducible ((k_here; (with_reducible show wpAny _ _ (subscriptTail _ _ (Value.ref _) (Value.int _ _)) _ _ _); k_dflt (refine' at_item ?N ?hm ?h0 ?hf ?hx ?_; (case N => k_asm); (case hm => k_mem); (case h0 => assumption); (case hf => assumption); (case hx => assumption))))) | ((with_reducible show wpAny _ _ (call (Value.builtin "list.index") _) _ _ _); with_reducible ((k_here; (with_reducible show wpAny _ _ (call (Value.builtin _) [Value.ref _, Value.int _ _]) _ _ _); k_dflt (refine' kf_index ?N ?m ?i ?e ?c ?z ?_; (case N => k_asm); (case m => k_mem); (case i => assumption); (case e => assumption); (case c => exact rfl); (case z => assumption))))) | walk1) | (dsimp only; (first | (with_reducible ((k_here; (with_reducible show wpAny _ _ (subscriptTail _ _ (Value.ref _) (Value.int _ _)) _ _ _); k_dflt (refine' at_item ?N ?hm ?h0 ?hf ?hx ?_; (case N => k_asm); (case hm => k_mem); (case h0 => assumption); (case hf => assumption); (case hx => assumption))))) | ((with_reducible show wpAny _ _ (call (Value.builtin "list.index") _) _ _ _); with_reducible ((k_here; (with_reducible show wpAny _ _ (call (Value.builtin _) [Value.ref _, Value.int _ _]) _ _ _); k_dflt (refine' kf_index ?N ?m ?i ?e ?c ?z ?_; (case N => k_asm); (case m => k_mem); (case i => assumption); (case e => assumption); (case c => exact rfl); (case z => assumption))))) | walk1)) | (leave1; walk_say "STEP leave1"; try dsimp only) | fail "no step")
  exact hret
set_option maxHeartbeats 8000000 in
theorem duel_rest {w : World} {A₀ : Around} {base g : Heap} {L1 fa : Addr} {cd : Value} {mg mb : Str → Option Value} {s : Shared} {p : Program} {loose : List Str} {mean : ExcName → Option Value} {nm : Str} {sc csc : Scope} {t e : Expr} {m : Str → Option Value} {S : List (Addr × Obj) → Prop} {news : List (Addr × Obj)} {FS : List Bal} {Fin : List Value → List (Addr × Obj) → Prop} {gl : Addr} {og ok ol : Obj} {xs : Array Value} {gn : Nat} {k x y : Int} {tk tx ty : Tok}
    (hP : duelComp = some (sc, t, e, csc)) (B1 : Below A₀ base [] g) (X1 : (Mine.KL w.params).In g) (T1 : Top p loose mean mg mb g) (hS : S news) (hm : ∀ x ∈ FS, balObj x ∈ news) (hm2 : ∀ q ∈ (gl, listOf xs gn) :: (L1 + 1 + 1 + 1 + 1 + 1, ol) :: (L1 + 1 + 1 + 1 + 1, og) :: (L1 + 1 + 1 + 1, ok) :: [], q ∈ news) (hh : ∀ b ∈ FS, BalOk x y b)
    (hdg : og.data = .cell (some (.ref gl))) (hdk : ok.data = .cell (some (.int k tk))) (hdl : ol.data = .cell (some (.int y ty))) (h0 : 0 ≤ k) (hf : k < 2 ^ 63) (hxk : xs[k.toNat]? = some (.int x tx))
    (fin : ∀ ys, ys.length = (FS.filter (duelR x y)).length → Fin ys news) :
    ∀ r i ys, r + i = FS.length → ys.length = ((FS.take i).filter (duelR x y)).length → LCt.CompRestT PySem.Challenge.rw_st0010_01.row.prog w (callerA.deeper (envOfC nm sc L1 fa cd)) g L1 m (envOfC nm sc L1 fa cd) t e (Str.ofString "ballot") csc [(Str.ofString "later", L1 + 1 + 1 + 1 + 1 + 1), (Str.ofString "k", L1 + 1 + 1 + 1), (Str.ofString "gone", L1 + 1 + 1 + 1 + 1)] s S (fun i v => (List.toArray (FS.map balRef))[i]? = some v) Fin r i ys news
  | 0, i, ys, hk, hy => fin ys (by rw [List.take_of_length_le (by omega)] at hy; exact hy)
  | r + 1, i, ys, hk, hy => by
    refine LCt.CompRestT.succ ?_
    intro v I oI C oC D m₂ h tk E' hv hC hx F N off ne
    have hv2 : (FS.map balRef)[i]? = some v := by simpa using hv
    rw [List.getElem?_map] at hv2
    obtain ⟨b, hbi, rfl⟩ := Option.map_eq_some_iff.mp hv2
    have hbm : b ∈ FS := List.mem_of_getElem? hbi
    obtain ⟨hi, ⟨jx, hjx⟩, ⟨jy, hjy⟩, hz⟩ := hh b hbm
    have hxn := hm b hbm
    have hres : duelR x y b = decide ((jx : Int) < jy) := by
      unfold duelR
      rw [hjx, hjy]
      simp
    have sub9 : ∀ q ∈ (I, oI) :: (C, oC) :: (D, LCg.lst ys) :: news, q ∈ (I, oI) :: (C, oC) :: (D, LCg.lst ys) :: news := fun _ h => h
    refine duel_test (csc := csc) (b := b.a) (vs := b.vs) (n := b.n) (led := []) hP B1 F X1 (News.sub N (by
      intro q hq
      rcases List.mem_cons.mp hq with rfl | hq
      · exact .tail _ (.head _)
      rcases List.mem_cons.mp hq with rfl | hq
      · exact .tail _ (.tail _ (.tail _ hxn))
      exact .tail _ (.tail _ (.tail _ (hm2 q hq))))) T1 hC hx hdg hdk hdl h0 hf hxk hi hjx hjy hz fun tk' => ?_
    have hfl : ((FS.take (i + 1)).filter (duelR x y)) = ((FS.take i).filter (duelR x y)) ++ (if duelR x y b then [b] else []) := by
      rw [List.take_add_one, hbi, List.filter_append]
      cases e : duelR x y b <;> simp [e]
    cases hd : decide ((jx : Int) < jy) with
    | true =>
      rw [if_pos rfl]
      refine duel_elt (csc := csc) (led := []) hP B1 F X1 (News.sub N (mem_one (.tail _ (.head _)))) T1 hC hx ?_
      refine LCg.CompEnd.intro F N news (fun _ h => h) off hS ?_
      refine duel_rest hP B1 X1 T1 hS hm hm2 hh hdg hdk hdl h0 hf hxk fin r (i + 1) _ (by omega) ?_
      rw [hfl, hres, hd]
      simp [hy]
    | false =>
      rw [if_neg (by simp)]
      refine LCg.CompEnd.intro F N news (fun _ h => h) off hS ?_
      refine duel_rest hP B1 X1 T1 hS hm hm2 hh hdg hdk hdl h0 hf hxk fin r (i + 1) _ (by omega) ?_
      rw [hfl, hres, hd]
      simp [hy]
set_option maxHeartbeats 8000000 in
theorem duel_if {w : World} {A₀ : Around} {base g : Heap} {L1 fa : Addr} {cd : Value} {mg mb : Str → Option Value} {s : Shared} {Q : Flow → Shared → Prop} {E : Value → Shared → Prop} {p : Program} {loose : List Str} {mean : ExcName → Option Value} {nm : Str} {sc : Scope} {S : List Stmt} {gl bs : Addr} {ol og ok : Obj} {led : List (Addr × Obj)} {m : Str → Option Value} {FS : List Bal} {xs : Array Value} {gn bn : Nat} {k x y : Int} {tk tx ty : Tok}
    (hP : duelIf = some (sc, S)) (B1 : Below A₀ base [] g)
    (F0 : Fr g L1 s.heap m) (X1 : (Mine.KL w.params).In g)
    (N0 : News g L1 s.heap ((bs, listOf (List.toArray (FS.map balRef)) bn) :: (gl, listOf xs gn) :: (L1 + 1 + 1 + 1 + 1 + 1, ol) :: (L1 + 1 + 1 + 1 + 1, og) :: (L1 + 1 + 1 + 1, ok) :: led)) (T1 : Top p loose mean mg mb g) (hbal : m (Str.ofString "ballots") = some (.ref bs)) (hm : ∀ x ∈ FS, balObj x ∈ led) (hh : ∀ b ∈ FS, BalOk x y b) (hsz : FS.length ≤ 100)
    (hdg : og.data = .cell (some (.ref gl))) (hdk : ok.data = .cell (some (.int k tk))) (hdl : ol.data = .cell (some (.int y ty))) (hk0 : 0 ≤ k) (hkf : k < 2 ^ 63) (hxk : xs[k.toNat]? = some (.int x tx)) (h3 : 3 ≤ (FS.filter (duelR x y)).length)
    (hret : ∀ h' tk', Fr g L1 h' m → News g L1 h' ((bs, listOf (List.toArray (FS.map balRef)) bn) :: (gl, listOf xs gn) :: (L1 + 1 + 1 + 1 + 1 + 1, ol) :: (L1 + 1 + 1 + 1 + 1, og) :: (L1 + 1 + 1 + 1, ok) :: led) → Q .next { s with heap := h', toks := tk' }) :
    wpAny (model PySem.Challenge.rw_st0010_01.row.prog w) (callerA.deeper (envOfC nm sc L1 fa cd)) (execs S (envOfC nm sc L1 fa cd)) Q E s := by
  obtain ⟨h0, g0, r9, k0, os0⟩ := s
  dsimp only at F0 N0 hret ⊢
  conv at hP => lhs; whnf
  injection hP with hP
  injection hP with hP1 hP2
  subst hP1 hP2
  revert X1; k_fill; intro X1
  repeat' ((fail_if_success (with_reducible show wpAny _ _ (eval (Expr.ListComp _ _ _ _) _) _ _ _)); (fail_if_success (with_reducible show wpAny _ _ (call (Value.builtin _) [Value.ref _, Value.int _ _]) _ _ _)); (fail_if_success (with_reducible show ∃ _, _)); (fail_if_success (with_reducible show LeaveK h₀ _ _ _ _ _ _)); (fail_if_success (with_reducible show wpAny _ _ (call (Value.ref 94) _) _ _ _)); (fail_if_success (with_reducible show wpAny _ _ (call (Value.ref 101) _) _ _ _)); (fail_if_success (with_reducible show wpAny _ _ (call (Value.ref 106) _) _ _ _)); (fail_if_success (with_reducible show wpAny _ _ (call (Value.ref 87) _) _ _ _)); (fail_if_success (with_reducible show wpAny _ _ (call (Value.ref 113) _) _ _ _)); (fail_if_success (with_reducible show wpAny _ _ (call (Value.ref 118) _) _ _ _)); (fail_if_success (with_reducible show wpAny _ _ (call (Value.ref 56) _) _ _ _)); first | (k_unfold; (try dsimp only)) | (k_end; wrow_close) | (first | ((with_reducible show wpAny _ _ (eval (PySem.Expr.Name _ _) _) _ _ _); with_reducible ((k_here; k_dflt (refine' nameX_L ?F ?v ?_ ?a ?b; (case F => k_asm); (case a => rfl); (case b => rfl); (case v => with_reducible assumption); k_whole)))) | ((with_reducible show wpAny _ _ (call (Value.builtin "len") _) _ _ _); with_reducible ((k_here; k_dflt (refine' len_L ?N ?hm ?hz ?_; (case N => k_asm); (case hm => k_mem); (case hz => assumption)); intro _))) | (with_reducible ((k_here; (with_reducible show wpAny _ _ (subscriptTail _ _ (Value.ref _) (Value.int _ _)) _ _ _); k_dflt (refine' at_item ?N ?hm ?h0 ?hf ?hx ?_; (case N => k_asm); (case hm => k_mem); (case h0 => assumption); (case hf => assumption); (case hx => assumption))))) | ((with_reducible show wpAny _ _ (call (Value.builtin "list.index") _) _ _ _); with_reducible ((k_here; (with_reducible show wpAny _ _ (call (Value.builtin _) [Value.ref _, Value.int _ _]) _ _ _); k_dflt (refine' kf_index ?N ?m ?i ?e ?c ?z ?_; (case N => k_asm); (case m => k_mem); (case i => assumption); (case e => assumption); (case c => exact rfl); (case z => assumption))))) | walk1) | (dsimp only; (first | ((with_reducible show wpAny _ _ (eval (PySem.Expr.Name _ _) _) _ _ _); with_reducible ((k_here; k_dflt (refine' nameX_L ?F ?v ?_ ?a ?b; (case F => k_asm); (case a => rfl); (case b => rfl); (case v => with_reducible assumption); k_whole)))) | ((with_reducible show wpAny _ _ (call (Value.builtin "len") _) _ _ _); with_reducible ((k_here; k_dflt (refine' len_L ?N ?hm ?hz ?_; (case N => k_asm); (case hm => k_mem); (case hz => assumption)); intro _))) | (with_reducible ((k_here; (with_reducible show wpAny _ _ (subscriptTail _ _ (Value.ref _) (Value.int _ _)) _ _ _); k_dflt (refine' at_item ?N ?hm ?h0 ?hf ?hx ?_; (case N => k_asm); (case hm => k_mem); (case h0 => assumption); (case hf => assumption); (case hx => assumption))))) | ((with_reducible show wpAny _ _ (call (Value.builtin "list.index") _) _ _ _); with_reducible ((k_here; (with_reducible show wpAny _ _ (call (Value.builtin _) [Value.ref _, Value.int _ _]) _ _ _); k_dflt (refine' kf_index ?N ?m ?i ?e ?c ?z ?_; (case N => k_asm); (case m => k_mem); (case i => assumption); (case e => assumption); (case c => exact rfl); (case z => assumption))))) | walk1)) | (leave1; walk_say "STEP leave1"; try dsimp only) | fail "no step")
  refine LCt.ListComp_T (F₀ := F0) (by with_unfolding_all rfl) (by decide) (by rfl) (by decide) (by rfl) ?_
  (first | ((with_reducible show wpAny _ _ (eval (PySem.Expr.Name _ _) _) _ _ _); with_reducible ((k_here; k_dflt (refine' nameX_L ?F ?v ?_ ?a ?b; (case F => k_asm); (case a => rfl); (case b => rfl); (case v => with_reducible assumption); k_whole)))) | ((with_reducible show wpAny _ _ (call (Value.builtin "len") _) _ _ _); with_reducible ((k_here; k_dflt (refine' len_L ?N ?hm ?hz ?_; (case N => k_asm); (case hm => k_mem); (case hz => assumption)); intro _))) | (with_reducible ((k_here; (with_reducible show wpAny _ _ (subscriptTail _ _ (Value.ref _) (Value.int _ _)) _ _ _); k_dflt (refine' at_item ?N ?hm ?h0 ?hf ?hx ?_; (case N => k_asm); (case hm => k_mem); (case h0 => assumption); (case hf => assumption); (case hx => assumption))))) | ((with_reducible show wpAny _ _ (call (Value.builtin "list.index") _) _ _ _); with_reducible ((k_here; (with_reducible show wpAny _ _ (call (Value.builtin _) [Value.ref _, Value.int _ _]) _ _ _); k_dflt (refine' kf_index ?N ?m ?i ?e ?c ?z ?_; (case N => k_asm); (case m => k_mem); (case i => assumption); (case e => assumption); (case c => exact rfl); (case z => assumption))))) | walk1)
  have e5 : (List.toArray (FS.map balRef)).size = FS.length := by rw [List.size_toArray, List.length_map]
  refine LCt.CompSrcT.ledger (by rfl) F0 N0 (.head _) (by rw [e5, sizeLine_eq]; omega) (fun g9 => ?_)
  rw [e5]
  refine duel_rest (FS := FS) (xs := xs) (gn := gn) rfl B1 X1 T1 (.inr ⟨_, .head _, rfl, bn, rfl⟩) (fun x hx => .tail _ (.tail _ (.tail _ (.tail _ (.tail _ (hm x hx)))))) (mem_cons' (.tail _ (.head _)) (mem_cons' (.tail _ (.tail _ (.head _))) (mem_cons' (.tail _ (.tail _ (.tail _ (.head _)))) (mem_one (.tail _ (.tail _ (.tail _ (.tail _ (.head _))))))))) hh hdg hdk hdl hk0 hkf hxk (fun ys hy => ?_) FS.length 0 [] (by omega) rfl
  intro D hD tkD FD ND oD
  have hfl := List.length_filter_le (duelR x y) FS
  have hyl : ys.length ≤ 1000000 := by omega
  clear F0 N0
  dsimp only
  repeat' ((fail_if_success (with_reducible show ∃ _, _)); (fail_if_success (with_reducible show LeaveK h₀ _ _ _ _ _ _)); (fail_if_success (with_reducible show wpAny _ _ (call (Value.ref 94) _) _ _ _)); (fail_if_success (with_reducible show wpAny _ _ (call (Value.ref 101) _) _ _ _)); (fail_if_success (with_reducible show wpAny _ _ (call (Value.ref 106) _) _ _ _)); (fail_if_success (with_reducible show wpAny _ _ (call (Value.ref 87) _) _ _ _)); (fail_if_success (with_reducible show wpAny _ _ (call (Value.ref 113) _) _ _ _)); (fail_if_success (with_reducible show wpAny _ _ (call (Value.ref 118) _) _ _ _)); (fail_if_success (with_reducible show wpAny _ _ (call (Value.ref 56) _) _ _ _)); first | (k_unfold; (try dsimp only)) | (k_end; wrow_close) | (first | ((with_reducible show wpAny _ _ (eval (PySem.Expr.Name _ _) _) _ _ _); with_reducible ((k_here; k_dflt (refine' nameX_L ?F ?v ?_ ?a ?b; (case F => k_asm); (case a => rfl); (case b => rfl); (case v => with_reducible assumption); k_whole)))) | ((with_reducible show wpAny _ _ (call (Value.builtin "len") _) _ _ _); with_reducible ((k_here; k_dflt (refine' len_L ?N ?hm ?hz ?_; (case N => k_asm); (case hm => k_mem); (case hz => assumption)); intro _))) | (with_reducible ((k_here; (with_reducible show wpAny _ _ (subscriptTail _ _ (Value.ref _) (Value.int _ _)) _ _ _); k_dflt (refine' at_item ?N ?hm ?h0 ?hf ?hx ?_; (case N => k_asm); (case hm => k_mem); (case h0 => assumption); (case hf => assumption); (case hx => assumption))))) | ((with_reducible show wpAny _ _ (call (Value.builtin "list.index") _) _ _ _); with_reducible ((k_here; (with_reducible show wpAny _ _ (call (Value.builtin _) [Value.ref _, Value.int _ _]) _ _ _); k_dflt (refine' kf_index ?N ?m ?i ?e ?c ?z ?_; (case N => k_asm); (case m => k_mem); (case i => assumption); (case e => assumption); (case c => exact rfl); (case z => assumption))))) | walk1) | (dsimp only; (first | ((with_reducible show wpAny _ _ (eval (PySem.Expr.Name _ _) _) _ _ _); with_reducible ((k_here; k_dflt (refine' nameX_L ?F ?v ?_ ?a ?b; (case F => k_asm); (case a => rfl); (case b => rfl); (case v => with_reducible assumption); k_whole)))) | ((with_reducible show wpAny _ _ (call (Value.builtin "len") _) _ _ _); with_reducible ((k_here; k_dflt (refine' len_L ?N ?hm ?hz ?_; (case N => k_asm); (case hm => k_mem); (case hz => assumption)); intro _))) | (with_reducible ((k_here; (with_reducible show wpAny _ _ (subscriptTail _ _ (Value.ref _) (Value.int _ _)) _ _ _); k_dflt (refine' at_item ?N ?hm ?h0 ?hf ?hx ?_; (case N => k_asm); (case hm => k_mem); (case h0 => assumption); (case hf => assumption); (case hx => assumption))))) | ((with_reducible show wpAny _ _ (call (Value.builtin "list.index") _) _ _ _); with_reducible ((k_here; (with_reducible show wpAny _ _ (call (Value.builtin _) [Value.ref _, Value.int _ _]) _ _ _); k_dflt (refine' kf_index ?N ?m ?i ?e ?c ?z ?_; (case N => k_asm); (case m => k_mem); (case i => assumption); (case e => assumption); (case c => exact rfl); (case z => assumption))))) | walk1)) | (leave1; walk_say "STEP leave1"; try dsimp only) | fail "no step")
  exact hret _ _ FD (News.sub ND fun p hp => .tail _ hp)
theorem pick_from {v0 v1 v2 v3 : Value} {i : Nat} (hi : i < 4) : kms_pick (#[v0, v1, v2, v3] : Array Value).toList (some (0 + (i : Int) + 1)) none = [v0, v1, v2, v3].drop (i + 1) := by
  match i, hi with
  | 0, _ => rfl
  | 1, _ => rfl
  | 2, _ => rfl
  | 3, _ => rfl
theorem four_drop {z : Nat → Int} {t0 t1 t2 t3 : Tok} {i j : Nat} {v : Value} (h9 : ([Value.int (z 0) t0, Value.int (z 1) t1, Value.int (z 2) t2, Value.int (z 3) t3].drop (i + 1))[j]? = some v) : ∃ tv, v = .int (z (i + 1 + j)) tv ∧ i + 1 + j < 4 := by
  simp only [List.getElem?_drop] at h9
  have h8 : i + 1 + j < 4 := by
    have := (List.getElem?_eq_some_iff.mp h9).1
    simpa using this
  generalize i + 1 + j = q at h8 h9 ⊢
  match q, h8 with
  | 0, _ => exact ⟨_, (Option.some.inj h9).symm, by omega⟩
  | 1, _ => exact ⟨_, (Option.some.inj h9).symm, by omega⟩
  | 2, _ => exact ⟨_, (Option.some.inj h9).symm, by omega⟩
  | 3, _ => exact ⟨_, (Option.some.inj h9).symm, by omega⟩
theorem four_at {z : Nat → Int} {t0 t1 t2 t3 : Tok} {i : Nat} (hi : i < 4) : ∃ tx, (#[Value.int (z 0) t0, Value.int (z 1) t1, Value.int (z 2) t2, Value.int (z 3) t3] : Array Value)[(0 + (i : Int)).toNat]? = some (.int (z i) tx) := by
  match i, hi with
  | 0, _ => exact ⟨_, rfl⟩
  | 1, _ => exact ⟨_, rfl⟩
  | 2, _ => exact ⟨_, rfl⟩
  | 3, _ => exact ⟨_, rfl⟩
inductive DJ (m : Str → Option Value) (L1 gl bs : Addr) (og ok : Obj) (FS : List Bal) (gn bn : Nat) (z : Nat → Int) (t0 t1 t2 t3 : Tok) (led : List (Addr × Obj)) : Nat → (Str → Option Value) → List (Addr × Obj) → Prop
  | mk {i : Nat} {ol : Obj} {vl : Option Value} : ol.data = .cell vl → DJ m L1 gl bs og ok FS gn bn z t0 t1 t2 t3 led i m ((bs, listOf (List.toArray (FS.map balRef)) bn) :: (gl, listOf #[Value.int (z 0) t0, Value.int (z 1) t1, Value.int (z 2) t2, Value.int (z 3) t3] gn) :: (L1 + 1 + 1 + 1 + 1 + 1, ol) :: (L1 + 1 + 1 + 1 + 1, og) :: (L1 + 1 + 1 + 1, ok) :: led)
set_option maxHeartbeats 8000000 in
theorem duel_inner_iter {w : World} {A₀ : Around} {base g : Heap} {L1 fa : Addr} {cd : Value} {mg mb : Str → Option Value} {s : Shared} {Q : Flow → Shared → Prop} {E : Value → Shared → Prop} {p : Program} {loose : List Str} {mean : ExcName → Option Value} {nm : Str} {sc : Scope} {m : Str → Option Value} {led : List (Addr × Obj)} {S : List Stmt} {gl bs : Addr} {ol og ok : Obj} {FS : List Bal} {gn bn : Nat} {z : Nat → Int} {t0 t1 t2 t3 : Tok} {vl : Option Value} {i : Nat} {tk : Tok} {D : Addr} {dn : Nat} {px : Pos}
    (hP : duelIf = some (sc, S)) (B1 : Below A₀ base [] g) (F0 : Fr g L1 s.heap m) (X1 : (Mine.KL w.params).In g) (T1 : Top p loose mean mg mb g) (N0 : News g L1 s.heap ((D, listOf (List.toArray ([Value.int (z 0) t0, Value.int (z 1) t1, Value.int (z 2) t2, Value.int (z 3) t3].drop (i + 1))) dn) :: (bs, listOf (List.toArray (FS.map balRef)) bn) :: (gl, listOf #[Value.int (z 0) t0, Value.int (z 1) t1, Value.int (z 2) t2, Value.int (z 3) t3] gn) :: (L1 + 1 + 1 + 1 + 1 + 1, ol) :: (L1 + 1 + 1 + 1 + 1, og) :: (L1 + 1 + 1 + 1, ok) :: led)) (hbal : m (Str.ofString "ballots") = some (.ref bs)) (hm : ∀ x ∈ FS, balObj x ∈ led) (hsz : FS.length ≤ 100) (hdg : og.data = .cell (some (.ref gl))) (hi : i < 4) (hh : ∀ j, j < 4 → i < j → ∀ b ∈ FS, BalOk (z i) (z j) b) (hdk : ok.data = .cell (some (.int (0 + (i : Int)) tk))) (hdl : ol.data = .cell vl) (h3 : ∀ j, j < 4 → i < j → 3 ≤ (FS.filter (duelR (z i) (z j))).length)
    (hol : ∀ q ∈ (D, listOf #[] 0) :: (bs, listOf #[] 0) :: (gl, listOf #[] 0) :: (L1 + 1 + 1 + 1 + 1, og) :: (L1 + 1 + 1 + 1, ok) :: led, q.1 ≠ L1 + 1 + 1 + 1 + 1 + 1)
    (hret : ∀ ol' vl' h' tk', ol'.data = .cell vl' → Fr g L1 h' m → News g L1 h' ((bs, listOf (List.toArray (FS.map balRef)) bn) :: (gl, listOf #[Value.int (z 0) t0, Value.int (z 1) t1, Value.int (z 2) t2, Value.int (z 3) t3] gn) :: (L1 + 1 + 1 + 1 + 1 + 1, ol') :: (L1 + 1 + 1 + 1 + 1, og) :: (L1 + 1 + 1 + 1, ok) :: led) → Q .next { s with heap := h', toks := tk' }) :
    wpAny (model PySem.Challenge.rw_st0010_01.row.prog w) (callerA.deeper (envOfC nm sc L1 fa cd)) (pyIter (.ref D)) (fun it s₂ => TurnsAt PySem.Challenge.rw_st0010_01.row.prog w (callerA.deeper (envOfC nm sc L1 fa cd)) g (envOfC nm sc L1 fa cd) (Expr.Name (Str.ofString "later") px) S Q E it s₂) E s := by
  have hPc := hP
  conv at hPc => lhs; whnf
  injection hPc with hPc
  injection hPc with hPc1 hPc2
  subst hPc1 hPc2
  have lI : @LT.lt Nat _ (L1 + 1 + 1 + 1 + 1 + 1) s.heap.objs.size := Heap.lt_size (N0 (L1 + 1 + 1 + 1 + 1 + 1, ol) (.tail _ (.tail _ (.tail _ (.head _))))).1
  let D0 : Addr × Obj := (D, listOf (List.toArray ([Value.int (z 0) t0, Value.int (z 1) t1, Value.int (z 2) t2, Value.int (z 3) t3].drop (i + 1))) dn)
  refine for_list_c rfl F0 N0 (.head _) (fun k m1 nw => ∃ nw2, nw = D0 :: nw2 ∧ DJ m L1 gl bs og ok FS gn bn z t0 t1 t2 t3 led k m1 nw2) ⟨_, rfl, .mk hdl⟩ ?_ ?_
  · rintro j v m₁ news₁ h tk2 own Q' hv ⟨nw2, rfl, hJ⟩ hown F1 N1 hk
    cases hJ with
    | @mk ol1 vl1 hol1 =>
    obtain ⟨tv, rfl, hj4⟩ := four_drop (t0 := t0) (t1 := t1) (t2 := t2) (t3 := t3) hv
    refine wpAny_assign_Name ?_
    refine storeX_C (v₀ := vl1) (o := ol1) (c := L1 + 1 + 1 + 1 + 1 + 1) F1 (News.sub N1 (l' := (L1 + 1 + 1 + 1 + 1 + 1, ol1) :: (bs, listOf (List.toArray (FS.map balRef)) bn) :: (gl, listOf #[Value.int (z 0) t0, Value.int (z 1) t1, Value.int (z 2) t2, Value.int (z 3) t3] gn) :: (L1 + 1 + 1 + 1 + 1, og) :: (L1 + 1 + 1 + 1, ok) :: (led ++ (D0 :: own))) fun q hq => ?_) rfl (UpdF.head fun q hq => ?_) hol1 (fun h2 ol2 F2 N2 hol2 => ?_) rfl rfl
    · rcases List.mem_cons.mp hq with rfl | hq
      · exact List.mem_append_right _ (.tail _ (.tail _ (.tail _ (.head _))))
      rcases List.mem_cons.mp hq with rfl | hq
      · exact List.mem_append_right _ (.tail _ (.head _))
      rcases List.mem_cons.mp hq with rfl | hq
      · exact List.mem_append_right _ (.tail _ (.tail _ (.head _)))
      rcases List.mem_cons.mp hq with rfl | hq
      · exact List.mem_append_right _ (.tail _ (.tail _ (.tail _ (.tail _ (.head _)))))
      rcases List.mem_cons.mp hq with rfl | hq
      · exact List.mem_append_right _ (.tail _ (.tail _ (.tail _ (.tail _ (.tail _ (.head _))))))
      rcases List.mem_append.mp hq with hq | hq
      · exact List.mem_append_right _ (.tail _ (.tail _ (.tail _ (.tail _ (.tail _ (.tail _ hq))))))
      rcases List.mem_cons.mp hq with rfl | hq
      · exact List.mem_append_right _ (.head _)
      · exact List.mem_append_left _ hq
    · rcases List.mem_cons.mp hq with rfl | hq
      · exact hol (bs, listOf #[] 0) (.tail _ (.head _))
      rcases List.mem_cons.mp hq with rfl | hq
      · exact hol (gl, listOf #[] 0) (.tail _ (.tail _ (.head _)))
      rcases List.mem_cons.mp hq with rfl | hq
      · exact hol _ (.tail _ (.tail _ (.tail _ (.head _))))
      rcases List.mem_cons.mp hq with rfl | hq
      · exact hol _ (.tail _ (.tail _ (.tail _ (.tail _ (.head _)))))
      rcases List.mem_append.mp hq with hq | hq
      · exact hol q (.tail _ (.tail _ (.tail _ (.tail _ (.tail _ hq)))))
      rcases List.mem_cons.mp hq with rfl | hq
      · exact hol (D, listOf #[] 0) (.head _)
      · rcases hown q hq with e | e
        · rw [e]; exact Nat.ne_of_gt lI
        · rw [e]; exact hol (D, listOf #[] 0) (.head _)
    clear F1 N1
    obtain ⟨txx, hxk⟩ := four_at (z := z) (t0 := t0) (t1 := t1) (t2 := t2) (t3 := t3) hi
    refine duel_if (led := led ++ (D0 :: own)) (y := z (i + 1 + j)) hP B1 F2 X1 (News.sub N2 (mem_cons' (.tail _ (.head _)) (mem_cons' (.tail _ (.tail _ (.head _))) (mem_cons' (.head _) (mem_cons' (.tail _ (.tail _ (.tail _ (.head _)))) (mem_cons' (.tail _ (.tail _ (.tail _ (.tail _ (.head _))))) (fun p hp => (.tail _ (.tail _ (.tail _ (.tail _ (.tail _ hp)))))))))))) T1 hbal (fun x hx => List.mem_append_left _ (hm x hx)) (hh _ hj4 (by omega)) hsz hdg hdk hol2 (by omega) (by omega) hxk (h3 _ hj4 (by omega)) (fun h3' tk3 F3 N3 => ?_)
    refine hk h3' tk3 m (D0 :: (bs, listOf (List.toArray (FS.map balRef)) bn) :: (gl, listOf #[Value.int (z 0) t0, Value.int (z 1) t1, Value.int (z 2) t2, Value.int (z 3) t3] gn) :: (L1 + 1 + 1 + 1 + 1 + 1, ol2) :: (L1 + 1 + 1 + 1 + 1, og) :: (L1 + 1 + 1 + 1, ok) :: led) F3 (News.sub N3 fun q hq => ?_) rfl ⟨_, rfl, .mk hol2⟩
    rcases List.mem_append.mp hq with hq | hq
    · exact (.tail _ (.tail _ (.tail _ (.tail _ (.tail _ (List.mem_append_right _ (.tail _ hq)))))))
    rcases List.mem_cons.mp hq with rfl | hq
    · exact (.tail _ (.tail _ (.tail _ (.tail _ (.tail _ (List.mem_append_right _ (.head _)))))))
    · exact (mem_cons' (.head _) (mem_cons' (.tail _ (.head _)) (mem_cons' (.tail _ (.tail _ (.head _))) (mem_cons' (.tail _ (.tail _ (.tail _ (.head _)))) (mem_cons' (.tail _ (.tail _ (.tail _ (.tail _ (.head _))))) (fun p hp => (.tail _ (.tail _ (.tail _ (.tail _ (.tail _ (List.mem_append_left _ hp)))))))))))) q hq
  · rintro h' tk' m' news' F' N' ⟨nw2, rfl, hJ⟩
    generalize hk5 : (List.drop (i + 1) [Value.int (z 0) t0, Value.int (z 1) t1, Value.int (z 2) t2, Value.int (z 3) t3]).length = k5 at hJ
    cases hJ with
    | mk hol1 => exact hret _ _ h' tk' hol1 F' (News.sub N' fun p hp => .tail _ hp)
set_option maxHeartbeats 8000000 in
theorem duel_inner {w : World} {A₀ : Around} {base g : Heap} {L1 fa : Addr} {cd : Value} {mg mb : Str → Option Value} {s : Shared} {Q : Flow → Shared → Prop} {E : Value → Shared → Prop} {p : Program} {loose : List Str} {mean : ExcName → Option Value} {nm : Str} {sc : Scope} {m : Str → Option Value} {led : List (Addr × Obj)} {S : Stmt} {gl bs : Addr} {ol og ok : Obj} {FS : List Bal} {gn bn : Nat} {z : Nat → Int} {t0 t1 t2 t3 : Tok} {vl : Option Value} {i : Nat} {tk : Tok}
    (hP : duelIn = some (sc, S)) (B1 : Below A₀ base [] g) (F0 : Fr g L1 s.heap m) (X1 : (Mine.KL w.params).In g) (T1 : Top p loose mean mg mb g) (N0 : News g L1 s.heap ((bs, listOf (List.toArray (FS.map balRef)) bn) :: (gl, listOf #[Value.int (z 0) t0, Value.int (z 1) t1, Value.int (z 2) t2, Value.int (z 3) t3] gn) :: (L1 + 1 + 1 + 1 + 1 + 1, ol) :: (L1 + 1 + 1 + 1 + 1, og) :: (L1 + 1 + 1 + 1, ok) :: led)) (hbal : m (Str.ofString "ballots") = some (.ref bs)) (hm : ∀ x ∈ FS, balObj x ∈ led) (hsz : FS.length ≤ 100) (hdg : og.data = .cell (some (.ref gl))) (hi : i < 4) (hh : ∀ j, j < 4 → i < j → ∀ b ∈ FS, BalOk (z i) (z j) b) (hdk : ok.data = .cell (some (.int (0 + (i : Int)) tk))) (hdl : ol.data = .cell vl) (h3 : ∀ j, j < 4 → i < j → 3 ≤ (FS.filter (duelR (z i) (z j))).length)
    (hol : ∀ q ∈ (bs, listOf #[] 0) :: (gl, listOf #[] 0) :: (L1 + 1 + 1 + 1 + 1, og) :: (L1 + 1 + 1 + 1, ok) :: led, q.1 ≠ L1 + 1 + 1 + 1 + 1 + 1)
    (hret : ∀ ol' vl' h' tk', ol'.data = .cell vl' → Fr g L1 h' m → News g L1 h' ((bs, listOf (List.toArray (FS.map balRef)) bn) :: (gl, listOf #[Value.int (z 0) t0, Value.int (z 1) t1, Value.int (z 2) t2, Value.int (z 3) t3] gn) :: (L1 + 1 + 1 + 1 + 1 + 1, ol') :: (L1 + 1 + 1 + 1 + 1, og) :: (L1 + 1 + 1 + 1, ok) :: led) → Q .next { s with heap := h', toks := tk' }) :
    wpAny (model PySem.Challenge.rw_st0010_01.row.prog w) (callerA.deeper (envOfC nm sc L1 fa cd)) (exec S (envOfC nm sc L1 fa cd)) Q E s := by
  obtain ⟨h0, g0, r9, k0, os0⟩ := s
  dsimp only at F0 N0 hret ⊢
  conv at hP => lhs; whnf
  injection hP with hP
  injection hP with hP1 hP2
  subst hP1 hP2
  revert X1; k_fill; intro X1
  refine wpAny_mono (Q := Q) (E := fun _ _ => False) ?_ (fun _ _ q => q) (fun _ _ f => False.elim f)
  refine For_turns F0 ?_
  repeat' ((fail_if_success (with_reducible show wpAny _ _ (pyIter _) _ _ _)); (fail_if_success (with_reducible show wpAny _ _ (newList _) _ _ _)); (fail_if_success (with_reducible show wpAny _ _ (subscriptTail _ _ (Value.ref _) (Value.ref _)) _ _ _)); (fail_if_success (with_reducible show ∃ _, _)); (fail_if_success (with_reducible show LeaveK h₀ _ _ _ _ _ _)); (fail_if_success (with_reducible show wpAny _ _ (call (Value.ref 94) _) _ _ _)); (fail_if_success (with_reducible show wpAny _ _ (call (Value.ref 101) _) _ _ _)); (fail_if_success (with_reducible show wpAny _ _ (call (Value.ref 106) _) _ _ _)); (fail_if_success (with_reducible show wpAny _ _ (call (Value.ref 87) _) _ _ _)); (fail_if_success (with_reducible show wpAny _ _ (call (Value.ref 113) _) _ _ _)); (fail_if_success (with_reducible show wpAny _ _ (call (Value.ref 118) _) _ _ _)); (fail_if_success (with_reducible show wpAny _ _ (call (Value.ref 56) _) _ _ _)); first | (k_unfold; (try dsimp only)) | (k_end; wrow_close) | (first | ((with_reducible show wpAny _ _ (eval (PySem.Expr.Name _ _) _) _ _ _); with_reducible ((k_here; k_dflt (refine' nameX_L ?F ?v ?_ ?a ?b; (case F => k_asm); (case a => rfl); (case b => rfl); (case v => with_reducible assumption); k_whole)))) | ((with_reducible show wpAny _ _ (eval (PySem.Expr.Name _ _) _) _ _ _); with_reducible ((k_here; k_dflt (refine' nameX_L ?F ?v ?_ ?a ?b; (case F => k_asm); (case a => rfl); (case b => rfl); (case v => with_reducible assumption); k_whole)))) | ((with_reducible show wpAny _ _ (call (Value.builtin "len") _) _ _ _); with_reducible ((k_here; k_dflt (refine' len_L ?N ?hm ?hz ?_; (case N => k_asm); (case hm => k_mem); (case hz => assumption)); intro _))) | (with_reducible ((k_here; (with_reducible show wpAny _ _ (subscriptTail _ _ (Value.ref _) (Value.int _ _)) _ _ _); k_dflt (refine' at_item ?N ?hm ?h0 ?hf ?hx ?_; (case N => k_asm); (case hm => k_mem); (case h0 => assumption); (case hf => assumption); (case hx => assumption))))) | ((with_reducible show wpAny _ _ (call (Value.builtin "list.index") _) _ _ _); with_reducible ((k_here; (with_reducible show wpAny _ _ (call (Value.builtin _) [Value.ref _, Value.int _ _]) _ _ _); k_dflt (refine' kf_index ?N ?m ?i ?e ?c ?z ?_; (case N => k_asm); (case m => k_mem); (case i => assumption); (case e => assumption); (case c => exact rfl); (case z => assumption))))) | walk1) | (dsimp only; (first | ((with_reducible show wpAny _ _ (eval (PySem.Expr.Name _ _) _) _ _ _); with_reducible ((k_here; k_dflt (refine' nameX_L ?F ?v ?_ ?a ?b; (case F => k_asm); (case a => rfl); (case b => rfl); (case v => with_reducible assumption); k_whole)))) | ((with_reducible show wpAny _ _ (eval (PySem.Expr.Name _ _) _) _ _ _); with_reducible ((k_here; k_dflt (refine' nameX_L ?F ?v ?_ ?a ?b; (case F => k_asm); (case a => rfl); (case b => rfl); (case v => with_reducible assumption); k_whole)))) | ((with_reducible show wpAny _ _ (call (Value.builtin "len") _) _ _ _); with_reducible ((k_here; k_dflt (refine' len_L ?N ?hm ?hz ?_; (case N => k_asm); (case hm => k_mem); (case hz => assumption)); intro _))) | (with_reducible ((k_here; (with_reducible show wpAny _ _ (subscriptTail _ _ (Value.ref _) (Value.int _ _)) _ _ _); k_dflt (refine' at_item ?N ?hm ?h0 ?hf ?hx ?_; (case N => k_asm); (case hm => k_mem); (case h0 => assumption); (case hf => assumption); (case hx => assumption))))) | ((with_reducible show wpAny _ _ (call (Value.builtin "list.index") _) _ _ _); with_reducible ((k_here; (with_reducible show wpAny _ _ (call (Value.builtin _) [Value.ref _, Value.int _ _]) _ _ _); k_dflt (refine' kf_index ?N ?m ?i ?e ?c ?z ?_; (case N => k_asm); (case m => k_mem); (case i => assumption); (case e => assumption); (case c => exact rfl); (case z => assumption))))) | walk1)) | (leave1; walk_say "STEP leave1"; try dsimp only) | fail "no step")
  refine kms_slice_lit (its := #[Value.int (z 0) t0, Value.int (z 1) t1, Value.int (z 2) t2, Value.int (z 3) t3]) F0 N0 ⟨_, (N0 _ (.tail _ (.head _))).1, rfl, gn, rfl⟩ (IsPart.int _ _) IsPart.none (pick_from hi) (fun D hD FD ND lD => ?_) (by with_unfolding_all rfl) (by intro _; with_unfolding_all rfl) (by rw [sizeLine_eq]; show (4 : Nat) ≤ _; omega)
  have lD5 : @LT.lt Nat _ (L1 + 1 + 1 + 1 + 1 + 1) D := lD (L1 + 1 + 1 + 1 + 1 + 1, ol) (.tail _ (.tail _ (.head _)))
  clear F0 N0
  dsimp only
  refine duel_inner_iter rfl B1 FD X1 T1 ND hbal hm hsz hdg hi hh hdk hdl h3 (fun q hq => ?_) hret
  rcases List.mem_cons.mp hq with rfl | hq
  · exact Nat.ne_of_gt lD5
  · exact hol q hq
noncomputable def duelBody : Option (Scope × List Stmt) := match duelFor with
  | some (sc, Stmt.For _ _ q _ _) => some (sc, q)
  | _ => none
inductive EJ (m : Str → Option Value) (L1 gl bs : Addr) (og : Obj) (FS : List Bal) (gn bn : Nat) (z : Nat → Int) (t0 t1 t2 t3 : Tok) (led : List (Addr × Obj)) : Nat → (Str → Option Value) → List (Addr × Obj) → Prop
  | mk {i : Nat} {ol ok : Obj} {vl vk : Option Value} : ol.data = .cell vl → ok.data = .cell vk → EJ m L1 gl bs og FS gn bn z t0 t1 t2 t3 led i m ((bs, listOf (List.toArray (FS.map balRef)) bn) :: (gl, listOf #[Value.int (z 0) t0, Value.int (z 1) t1, Value.int (z 2) t2, Value.int (z 3) t3] gn) :: (L1 + 1 + 1 + 1 + 1 + 1, ol) :: (L1 + 1 + 1 + 1 + 1, og) :: (L1 + 1 + 1 + 1, ok) :: led)
set_option maxHeartbeats 8000000 in
theorem duel_iter {w : World} {A₀ : Around} {base g : Heap} {L1 fa : Addr} {cd : Value} {mg mb : Str → Option Value} {s : Shared} {Q : Flow → Shared → Prop} {E : Value → Shared → Prop} {p : Program} {loose : List Str} {mean : ExcName → Option Value} {nm : Str} {sc : Scope} {m : Str → Option Value} {led : List (Addr × Obj)} {S : List Stmt} {gl bs : Addr} {ol og ok : Obj} {FS : List Bal} {gn bn : Nat} {z : Nat → Int} {t0 t1 t2 t3 : Tok} {vl vk : Option Value} {px : Pos} {rA : Addr} {tr1 tr2 tr3 : Tok}
    (hP : duelBody = some (sc, S)) (B1 : Below A₀ base [] g) (F0 : Fr g L1 s.heap m) (X1 : (Mine.KL w.params).In g) (T1 : Top p loose mean mg mb g) (N0 : News g L1 s.heap ((bs, listOf (List.toArray (FS.map balRef)) bn) :: (gl, listOf #[Value.int (z 0) t0, Value.int (z 1) t1, Value.int (z 2) t2, Value.int (z 3) t3] gn) :: (L1 + 1 + 1 + 1 + 1 + 1, ol) :: (L1 + 1 + 1 + 1 + 1, og) :: (L1 + 1 + 1 + 1, ok) :: led)) (hbal : m (Str.ofString "ballots") = some (.ref bs)) (hm : ∀ x ∈ FS, balObj x ∈ led) (hsz : FS.length ≤ 100) (hdg : og.data = .cell (some (.ref gl))) (hrg : IsRange s.heap rA 0 4 1 tr1 tr2 tr3) (hh : ∀ i j, j < 4 → i < j → ∀ b ∈ FS, BalOk (z i) (z j) b) (hdk : ok.data = .cell vk) (hdl : ol.data = .cell vl) (h3 : ∀ i j, j < 4 → i < j → 3 ≤ (FS.filter (duelR (z i) (z j))).length)
    (hol : ∀ q ∈ (bs, listOf #[] 0) :: (gl, listOf #[] 0) :: (L1 + 1 + 1 + 1 + 1, og) :: led, q.1 ≠ L1 + 1 + 1 + 1 + 1 + 1 ∧ q.1 ≠ L1 + 1 + 1 + 1)
    (hret : ∀ ol' vl' ok' vk' h' tk', ol'.data = .cell vl' → ok'.data = .cell vk' → Fr g L1 h' m → News g L1 h' ((bs, listOf (List.toArray (FS.map balRef)) bn) :: (gl, listOf #[Value.int (z 0) t0, Value.int (z 1) t1, Value.int (z 2) t2, Value.int (z 3) t3] gn) :: (L1 + 1 + 1 + 1 + 1 + 1, ol') :: (L1 + 1 + 1 + 1 + 1, og) :: (L1 + 1 + 1 + 1, ok') :: led) → Q .next { s with heap := h', toks := tk' }) :
    wpAny (model PySem.Challenge.rw_st0010_01.row.prog w) (callerA.deeper (envOfC nm sc L1 fa cd)) (pyIter (.ref rA)) (fun it s₂ => TurnsAt PySem.Challenge.rw_st0010_01.row.prog w (callerA.deeper (envOfC nm sc L1 fa cd)) g (envOfC nm sc L1 fa cd) (Expr.Name (Str.ofString "k") px) S Q E it s₂) E s := by
  conv at hP => lhs; whnf
  injection hP with hP
  injection hP with hP1 hP2
  subst hP1 hP2
  have l5 : @LT.lt Nat _ (L1 + 1 + 1 + 1 + 1 + 1) s.heap.objs.size := Heap.lt_size (N0 (L1 + 1 + 1 + 1 + 1 + 1, ol) (.tail _ (.tail _ (.head _)))).1
  have l3 : @LT.lt Nat _ (L1 + 1 + 1 + 1) s.heap.objs.size := Heap.lt_size (N0 (L1 + 1 + 1 + 1, ok) (.tail _ (.tail _ (.tail _ (.tail _ (.head _)))))).1
  refine for_range_c (n := 4) rfl F0 N0 hrg (by rfl) (by rfl) (EJ m L1 gl bs og FS gn bn z t0 t1 t2 t3 led) (.mk hdl hdk) ?_ ?_
  · rintro i t m₁ news₁ h tk2 own Q' hi hJ hown F1 N1 hk
    cases hJ with
    | @mk ol1 ok1 vl1 vk1 hol1 hok1 =>
    refine wpAny_assign_Name ?_
    refine storeX_C (v₀ := vk1) (o := ok1) (c := L1 + 1 + 1 + 1) F1 (News.sub N1 (l' := (L1 + 1 + 1 + 1, ok1) :: (bs, listOf (List.toArray (FS.map balRef)) bn) :: (gl, listOf #[Value.int (z 0) t0, Value.int (z 1) t1, Value.int (z 2) t2, Value.int (z 3) t3] gn) :: (L1 + 1 + 1 + 1 + 1 + 1, ol1) :: (L1 + 1 + 1 + 1 + 1, og) :: (led ++ own)) fun q hq => ?_) rfl (UpdF.head fun q hq => ?_) hok1 (fun h2 ok2 F2 N2 hok2 => ?_) rfl rfl
    · rcases List.mem_cons.mp hq with rfl | hq
      · exact List.mem_append_right _ (.tail _ (.tail _ (.tail _ (.tail _ (.head _)))))
      rcases List.mem_cons.mp hq with rfl | hq
      · exact List.mem_append_right _ (.head _)
      rcases List.mem_cons.mp hq with rfl | hq
      · exact List.mem_append_right _ (.tail _ (.head _))
      rcases List.mem_cons.mp hq with rfl | hq
      · exact List.mem_append_right _ (.tail _ (.tail _ (.head _)))
      rcases List.mem_cons.mp hq with rfl | hq
      · exact List.mem_append_right _ (.tail _ (.tail _ (.tail _ (.head _))))
      rcases List.mem_append.mp hq with hq | hq
      · exact List.mem_append_right _ (.tail _ (.tail _ (.tail _ (.tail _ (.tail _ hq)))))
      · exact List.mem_append_left _ hq
    · rcases List.mem_cons.mp hq with rfl | hq
      · exact (hol (bs, listOf #[] 0) (.head _)).2
      rcases List.mem_cons.mp hq with rfl | hq
      · exact (hol (gl, listOf #[] 0) (.tail _ (.head _))).2
      rcases List.mem_cons.mp hq with rfl | hq
      · show @Ne Nat (L1 + 1 + 1 + 1 + 1 + 1) (L1 + 1 + 1 + 1); omega
      rcases List.mem_cons.mp hq with rfl | hq
      · exact (hol _ (.tail _ (.tail _ (.head _)))).2
      rcases List.mem_append.mp hq with hq | hq
      · exact (hol q (.tail _ (.tail _ (.tail _ hq)))).2
      · rw [hown q hq]; exact Nat.ne_of_gt l3
    clear F1 N1
    refine wpAny_execs_cons (duel_inner (led := led ++ own) (i := i) rfl B1 F2 X1 T1 (News.sub N2 (mem_cons' (.tail _ (.head _)) (mem_cons' (.tail _ (.tail _ (.head _))) (mem_cons' (.tail _ (.tail _ (.tail _ (.head _)))) (mem_cons' (.tail _ (.tail _ (.tail _ (.tail _ (.head _))))) (mem_cons' (.head _) (fun p hp => (.tail _ (.tail _ (.tail _ (.tail _ (.tail _ hp)))))))))))) hbal (fun x hx => List.mem_append_left _ (hm x hx)) hsz hdg hi (fun j hj hij => hh i j hj hij) hok2 hol1 (fun j hj hij => h3 i j hj hij) (fun q hq => ?_) (fun ol2 vl2 h3' tk3 hol2 F3 N3 => ?_))
    · rcases List.mem_cons.mp hq with rfl | hq
      · exact (hol _ (.head _)).1
      rcases List.mem_cons.mp hq with rfl | hq
      · exact (hol _ (.tail _ (.head _))).1
      rcases List.mem_cons.mp hq with rfl | hq
      · exact (hol _ (.tail _ (.tail _ (.head _)))).1
      rcases List.mem_cons.mp hq with rfl | hq
      · show @Ne Nat (L1 + 1 + 1 + 1) (L1 + 1 + 1 + 1 + 1 + 1); omega
      rcases List.mem_append.mp hq with hq | hq
      · exact (hol q (.tail _ (.tail _ (.tail _ hq)))).1
      · rw [hown q hq]; exact Nat.ne_of_gt l5
    refine wpAny_execs_nil ?_
    refine hk h3' tk3 m ((bs, listOf (List.toArray (FS.map balRef)) bn) :: (gl, listOf #[Value.int (z 0) t0, Value.int (z 1) t1, Value.int (z 2) t2, Value.int (z 3) t3] gn) :: (L1 + 1 + 1 + 1 + 1 + 1, ol2) :: (L1 + 1 + 1 + 1 + 1, og) :: (L1 + 1 + 1 + 1, ok2) :: led) F3 (News.sub N3 fun q hq => ?_) rfl (.mk hol2 hok2)
    rcases List.mem_append.mp hq with hq | hq
    · exact (.tail _ (.tail _ (.tail _ (.tail _ (.tail _ (List.mem_append_right _ hq))))))
    · exact (mem_cons' (.head _) (mem_cons' (.tail _ (.head _)) (mem_cons' (.tail _ (.tail _ (.head _))) (mem_cons' (.tail _ (.tail _ (.tail _ (.head _)))) (mem_cons' (.tail _ (.tail _ (.tail _ (.tail _ (.head _))))) (fun p hp => (.tail _ (.tail _ (.tail _ (.tail _ (.tail _ (List.mem_append_left _ hp)))))))))))) q hq
  · intro h' tk' m' news' F' N' hJ
    generalize hk5 : 4 = k5 at hJ
    cases hJ with
    | mk hol1 hok1 => exact hret _ _ _ _ h' tk' hol1 hok1 F' N'
set_option maxHeartbeats 8000000 in
theorem duels {w : World} {A₀ : Around} {base g : Heap} {L1 fa : Addr} {cd : Value} {mg mb : Str → Option Value} {s : Shared} {Q : Flow → Shared → Prop} {E : Value → Shared → Prop} {p : Program} {loose : List Str} {mean : ExcName → Option Value} {nm : Str} {sc : Scope} {m : Str → Option Value} {led : List (Addr × Obj)} {S : Stmt} {gl bs : Addr} {ol og ok : Obj} {FS : List Bal} {gn bn : Nat} {z : Nat → Int} {t0 t1 t2 t3 : Tok} {vl vk : Option Value}
    (hP : duelFor = some (sc, S)) (B1 : Below A₀ base [] g) (F0 : Fr g L1 s.heap m) (X1 : (Mine.KL w.params).In g) (T1 : Top p loose mean mg mb g) (N0 : News g L1 s.heap ((bs, listOf (List.toArray (FS.map balRef)) bn) :: (gl, listOf #[Value.int (z 0) t0, Value.int (z 1) t1, Value.int (z 2) t2, Value.int (z 3) t3] gn) :: (L1 + 1 + 1 + 1 + 1 + 1, ol) :: (L1 + 1 + 1 + 1 + 1, og) :: (L1 + 1 + 1 + 1, ok) :: led)) (hbal : m (Str.ofString "ballots") = some (.ref bs)) (hm : ∀ x ∈ FS, balObj x ∈ led) (hsz : FS.length ≤ 100) (hdg : og.data = .cell (some (.ref gl))) (hh : ∀ i j, j < 4 → i < j → ∀ b ∈ FS, BalOk (z i) (z j) b) (hdk : ok.data = .cell vk) (hdl : ol.data = .cell vl) (h3 : ∀ i j, j < 4 → i < j → 3 ≤ (FS.filter (duelR (z i) (z j))).length)
    (hol : ∀ q ∈ (bs, listOf #[] 0) :: (gl, listOf #[] 0) :: (L1 + 1 + 1 + 1 + 1, og) :: led, q.1 ≠ L1 + 1 + 1 + 1 + 1 + 1 ∧ q.1 ≠ L1 + 1 + 1 + 1)
    (hret : ∀ ol' vl' ok' vk' h' tk', ol'.data = .cell vl' → ok'.data = .cell vk' → Fr g L1 h' m → News g L1 h' ((bs, listOf (List.toArray (FS.map balRef)) bn) :: (gl, listOf #[Value.int (z 0) t0, Value.int (z 1) t1, Value.int (z 2) t2, Value.int (z 3) t3] gn) :: (L1 + 1 + 1 + 1 + 1 + 1, ol') :: (L1 + 1 + 1 + 1 + 1, og) :: (L1 + 1 + 1 + 1, ok') :: led) → Q .next { s with heap := h', toks := tk' }) :
    wpAny (model PySem.Challenge.rw_st0010_01.row.prog w) (callerA.deeper (envOfC nm sc L1 fa cd)) (exec S (envOfC nm sc L1 fa cd)) Q E s := by
  obtain ⟨h0, g0, r9, k0, os0⟩ := s
  dsimp only at F0 N0 hret ⊢
  conv at hP => lhs; whnf
  injection hP with hP
  injection hP with hP1 hP2
  subst hP1 hP2
  revert X1; k_fill; intro X1
  refine wpAny_mono (Q := Q) (E := fun _ _ => False) ?_ (fun _ _ q => q) (fun _ _ f => False.elim f)
  refine For_turns F0 ?_
  repeat' ((fail_if_success (with_reducible show wpAny _ _ (pyIter _) _ _ _)); (fail_if_success (with_reducible show wpAny _ _ (newList _) _ _ _)); (fail_if_success (with_reducible show wpAny _ _ (subscriptTail _ _ (Value.ref _) (Value.ref _)) _ _ _)); (fail_if_success (with_reducible show ∃ _, _)); (fail_if_success (with_reducible show LeaveK h₀ _ _ _ _ _ _)); (fail_if_success (with_reducible show wpAny _ _ (call (Value.ref 94) _) _ _ _)); (fail_if_success (with_reducible show wpAny _ _ (call (Value.ref 101) _) _ _ _)); (fail_if_success (with_reducible show wpAny _ _ (call (Value.ref 106) _) _ _ _)); (fail_if_success (with_reducible show wpAny _ _ (call (Value.ref 87) _) _ _ _)); (fail_if_success (with_reducible show wpAny _ _ (call (Value.ref 113) _) _ _ _)); (fail_if_success (with_reducible show wpAny _ _ (call (Value.ref 118) _) _ _ _)); (fail_if_success (with_reducible show wpAny _ _ (call (Value.ref 56) _) _ _ _)); first | (k_unfold; (try dsimp only)) | (k_end; wrow_close) | (first | ((with_reducible show wpAny _ _ (eval (PySem.Expr.Name _ _) _) _ _ _); with_reducible ((k_here; k_dflt (refine' nameX_L ?F ?v ?_ ?a ?b; (case F => k_asm); (case a => rfl); (case b => rfl); (case v => with_reducible assumption); k_whole)))) | ((with_reducible show wpAny _ _ (eval (PySem.Expr.Name _ _) _) _ _ _); with_reducible ((k_here; k_dflt (refine' nameX_L ?F ?v ?_ ?a ?b; (case F => k_asm); (case a => rfl); (case b => rfl); (case v => with_reducible assumption); k_whole)))) | ((with_reducible show wpAny _ _ (call (Value.builtin "len") _) _ _ _); with_reducible ((k_here; k_dflt (refine' len_L ?N ?hm ?hz ?_; (case N => k_asm); (case hm => k_mem); (case hz => assumption)); intro _))) | (with_reducible ((k_here; (with_reducible show wpAny _ _ (subscriptTail _ _ (Value.ref _) (Value.int _ _)) _ _ _); k_dflt (refine' at_item ?N ?hm ?h0 ?hf ?hx ?_; (case N => k_asm); (case hm => k_mem); (case h0 => assumption); (case hf => assumption); (case hx => assumption))))) | ((with_reducible show wpAny _ _ (call (Value.builtin "list.index") _) _ _ _); with_reducible ((k_here; (with_reducible show wpAny _ _ (call (Value.builtin _) [Value.ref _, Value.int _ _]) _ _ _); k_dflt (refine' kf_index ?N ?m ?i ?e ?c ?z ?_; (case N => k_asm); (case m => k_mem); (case i => assumption); (case e => assumption); (case c => exact rfl); (case z => assumption))))) | walk1) | (dsimp only; (first | ((with_reducible show wpAny _ _ (eval (PySem.Expr.Name _ _) _) _ _ _); with_reducible ((k_here; k_dflt (refine' nameX_L ?F ?v ?_ ?a ?b; (case F => k_asm); (case a => rfl); (case b => rfl); (case v => with_reducible assumption); k_whole)))) | ((with_reducible show wpAny _ _ (eval (PySem.Expr.Name _ _) _) _ _ _); with_reducible ((k_here; k_dflt (refine' nameX_L ?F ?v ?_ ?a ?b; (case F => k_asm); (case a => rfl); (case b => rfl); (case v => with_reducible assumption); k_whole)))) | ((with_reducible show wpAny _ _ (call (Value.builtin "len") _) _ _ _); with_reducible ((k_here; k_dflt (refine' len_L ?N ?hm ?hz ?_; (case N => k_asm); (case hm => k_mem); (case hz => assumption)); intro _))) | (with_reducible ((k_here; (with_reducible show wpAny _ _ (subscriptTail _ _ (Value.ref _) (Value.int _ _)) _ _ _); k_dflt (refine' at_item ?N ?hm ?h0 ?hf ?hx ?_; (case N => k_asm); (case hm => k_mem); (case h0 => assumption); (case hf => assumption); (case hx => assumption))))) | ((with_reducible show wpAny _ _ (call (Value.builtin "list.index") _) _ _ _); with_reducible ((k_here; (with_reducible show wpAny _ _ (call (Value.builtin _) [Value.ref _, Value.int _ _]) _ _ _); k_dflt (refine' kf_index ?N ?m ?i ?e ?c ?z ?_; (case N => k_asm); (case m => k_mem); (case i => assumption); (case e => assumption); (case c => exact rfl); (case z => assumption))))) | walk1)) | (leave1; walk_say "STEP leave1"; try dsimp only) | fail "no step")
  rename Fr g _ _ _ => F9
  rename News g _ _ _ => N9
  rename IsRange _ _ _ _ _ _ _ _ => hrg
  exact duel_iter rfl B1 F9 X1 T1 N9 hbal hm hsz hdg hrg hh hdk hdl h3 hol hret
end
-- P6
/-! ballots as values -/
noncomputable def lit (c : Int) (u : Nat → Tok) (b : Int) : List Value := [.int (lnF c (pk b 0)) (u (pk b 0)), .int (lnF c (pk b 1)) (u (pk b 1)), .int (lnF c (pk b 2)) (u (pk b 2)), .int (lnF c (pk b 3)) (u (pk b 3))]
theorem PB_pk (b : Int) : PB b = [pk b 0, pk b 1, pk b 2, pk b 3] := balL_pk b fun i => i
theorem lit_map (c : Int) (u : Nat → Tok) (b : Int) : lit c u b = (PB b).map fun r => Value.int (lnF c r) (u r) := by
  rw [PB_pk]
  rfl
theorem kf_ints_map (c : Int) (u : Nat → Tok) : ∀ p : List Nat, kf_ints (p.map fun r => Value.int (lnF c r) (u r)) = true
  | [] => rfl
  | _ :: p => kf_ints_map c u p
theorem kf_at_map (c : Int) (u : Nat → Tok) {g : Nat} (hg : g < 4) : ∀ p : List Nat, (∀ r ∈ p, r < 4) → g ∈ p → kf_at (lnF c g) (p.map fun r => Value.int (lnF c r) (u r)) = some (p.idxOf g)
  | [], _, h => nomatch h
  | r :: p, hp, hm => by
    have hr := hp r (List.mem_cons_self ..)
    show kf_at (lnF c g) (Value.int (lnF c r) (u r) :: p.map fun r => Value.int (lnF c r) (u r)) = _
    unfold kf_at
    by_cases e : r = g
    · subst e
      have e1 : isInt (lnF c r) (Value.int (lnF c r) (u r)) = true := by simp [isInt]
      rw [e1, List.idxOf_cons_self]
      rfl
    · have hne : lnF c r ≠ lnF c g := fun h => e (lnF_inj c hr hg h)
      have e1 : isInt (lnF c g) (Value.int (lnF c r) (u r)) = false := by simp [isInt, hne]
      have hm2 : g ∈ p := by
        rcases List.mem_cons.mp hm with h | h
        · exact absurd h.symm e
        · exact h
      have ih := kf_at_map c u hg p (fun x hx => hp x (List.mem_cons_of_mem _ hx)) hm2
      rw [e1, ih, List.idxOf_cons]
      have e3 : (r == g) = false := beq_eq_false_iff_ne.mpr e
      rw [e3]
      rfl
theorem bal_ok (c : Int) (u : Nat → Tok) (b : Int) {g x : Nat} (hg : g < 4) (hx : x < 4) (a : Addr) (n : Nat) :
    BalOk (lnF c g) (lnF c x) ⟨a, lit c u b, n⟩ ∧ duelR (lnF c g) (lnF c x) ⟨a, lit c u b, n⟩ = decide ((PB b).idxOf g < (PB b).idxOf x) := by
  obtain ⟨h1, h2, h3⟩ := (PB_is b).perm
  have e1 := kf_at_map c u hg (PB b) h2 (h3 g hg)
  have e2 := kf_at_map c u hx (PB b) h2 (h3 x hx)
  refine ⟨⟨by rw [lit_map]; exact kf_ints_map c u _, ⟨_, by rw [lit_map]; exact e1⟩, ⟨_, by rw [lit_map]; exact e2⟩, by rw [sizeLine_eq]; show (4 : Nat) ≤ _; omega⟩, ?_⟩
  · unfold duelR
    rw [lit_map, e1, e2]
theorem filter_two {α β : Type} {f : α → Bool} {q : β → Bool} : ∀ {l : List (α × β)}, (∀ x ∈ l, f x.1 = q x.2) → ((l.map (·.1)).filter f).length = ((l.map (·.2)).filter q).length
  | [], _ => rfl
  | x :: l, h => by
    have ih := filter_two (l := l) fun y hy => h y (List.mem_cons_of_mem _ hy)
    have h0 := h x (List.mem_cons_self ..)
    simp only [List.map_cons]
    cases e : q x.2 with
    | true => rw [List.filter_cons_of_pos (h0.trans e), List.filter_cons_of_pos e]; simpa using ih
    | false => rw [List.filter_cons_of_neg (by rw [h0, e]; simp), List.filter_cons_of_neg (by rw [e]; simp)]; exact ih
theorem duel_cnt (c : Int) (u : Nat → Tok) {b0 b1 b2 b3 b4 : Int} {a0 a1 a2 a3 a4 : Addr} {n0 n1 n2 n3 n4 : Nat} {g x : Nat} (hg : g < 4) (hx : x < 4)
    (h : 3 ≤ ([PB b0, PB b1, PB b2, PB b3, PB b4].filter fun p => decide (p.idxOf g < p.idxOf x)).length) :
    (∀ b ∈ ([⟨a0, lit c u b0, n0⟩, ⟨a1, lit c u b1, n1⟩, ⟨a2, lit c u b2, n2⟩, ⟨a3, lit c u b3, n3⟩, ⟨a4, lit c u b4, n4⟩] : List Bal), BalOk (lnF c g) (lnF c x) b) ∧
      3 ≤ (([⟨a0, lit c u b0, n0⟩, ⟨a1, lit c u b1, n1⟩, ⟨a2, lit c u b2, n2⟩, ⟨a3, lit c u b3, n3⟩, ⟨a4, lit c u b4, n4⟩] : List Bal).filter (duelR (lnF c g) (lnF c x))).length := by
  constructor
  · intro b hb
    simp only [List.mem_cons, List.not_mem_nil, or_false] at hb
    rcases hb with rfl | rfl | rfl | rfl | rfl
    · exact (bal_ok c u b0 hg hx _ _).1
    · exact (bal_ok c u b1 hg hx _ _).1
    · exact (bal_ok c u b2 hg hx _ _).1
    · exact (bal_ok c u b3 hg hx _ _).1
    · exact (bal_ok c u b4 hg hx _ _).1
  · have e := filter_two (f := duelR (lnF c g) (lnF c x)) (q := fun p => decide (p.idxOf g < p.idxOf x)) (l := [((⟨a0, lit c u b0, n0⟩ : Bal), PB b0), (⟨a1, lit c u b1, n1⟩, PB b1), (⟨a2, lit c u b2, n2⟩, PB b2), (⟨a3, lit c u b3, n3⟩, PB b3), (⟨a4, lit c u b4, n4⟩, PB b4)]) (by
      intro y hy
      simp only [List.mem_cons, List.not_mem_nil, or_false] at hy
      rcases hy with rfl | rfl | rfl | rfl | rfl
      · exact (bal_ok c u b0 hg hx _ _).2
      · exact (bal_ok c u b1 hg hx _ _).2
      · exact (bal_ok c u b2 hg hx _ _).2
      · exact (bal_ok c u b3 hg hx _ _).2
      · exact (bal_ok c u b4 hg hx _ _).2)
    exact Nat.le_trans h (Nat.le_of_eq e.symm)
-- A1
theorem bigs {h₀ h : Heap} {L l : Addr} {news : List (Addr × Obj)} (N : News h₀ L h news) (hl : h.objs.size ≤ l) : ∀ p ∈ news, @LT.lt Nat _ p.1 l := fun p hp => Nat.lt_of_lt_of_le (Heap.lt_size (N p hp).1) hl
noncomputable def ballotsSt : Option (Scope × Stmt) := match lawOf with
  | some (sc, _ :: _ :: _ :: q :: _) => some (sc, q)
  | _ => none
noncomputable def BOk (c wv : Int) (u0 u1 u2 u3 : Tok) (BS : List Bal) : Prop := ∀ i b, BS[i]? = some b → b.vs = balL (bitsOf wv i) [.int (ln0 c) u0, .int (ln1 c) u1, .int (ln2 c) u2, .int (ln3 c) u3]
set_option maxHeartbeats 8000000 in
theorem ball_rest {w : World} {A₀ : Around} {base g : Heap} {L1 fa : Addr} {cd : Value} {mg mb : Str → Option Value} {s : Shared} {p : Program} {loose : List Str} {mean : ExcName → Option Value} {nm : Str} {sc csc : Scope} {e : Expr} {m : Str → Option Value} {led : List (Addr × Obj)} {Fin : List Value → List (Addr × Obj) → Prop} {ow on : Obj} {nl : Addr} {wv c : Int} {tw u0 u1 u2 u3 : Tok} {nn : Nat}
    (hP : ballotElt = some (sc, e, csc)) (B1 : Below A₀ base [] g) (X1 : (Mine.KL w.params).In g) (T1 : Top p loose mean mg mb g) (dw : ow.data = .cell (some (.int wv tw))) (dn : on.data = .cell (some (.ref nl)))
    (fin : ∀ BS : List Bal, BS.length = 5 → BOk c wv u0 u1 u2 u3 BS → Fin (BS.map balRef) (BS.map balObj ++ ((nl, listOf #[.int (ln0 c) u0, .int (ln1 c) u1, .int (ln2 c) u2, .int (ln3 c) u3] nn) :: (L1 + 1 + 1, on) :: (L1 + 1, ow) :: led))) :
    ∀ r i ys (BS : List Bal), r + i = 5 → BS.length = i → ys = BS.map balRef → BOk c wv u0 u1 u2 u3 BS → LCg.CompRest PySem.Challenge.rw_st0010_01.row.prog w (callerA.deeper (envOfC nm sc L1 fa cd)) g L1 m (envOfC nm sc L1 fa cd) e (Str.ofString "k") csc [(Str.ofString "wishes", L1 + 1), (Str.ofString "numbers", L1 + 1 + 1)] s (fun _ => True) (fun i v => ∃ t, v = .int (0 + (i : Int)) t) Fin r i ys (BS.map balObj ++ ((nl, listOf #[.int (ln0 c) u0, .int (ln1 c) u1, .int (ln2 c) u2, .int (ln3 c) u3] nn) :: (L1 + 1 + 1, on) :: (L1 + 1, ow) :: led))
  | 0, i, ys, BS, hk, hl, hy, hb => by
    refine LCg.CompRest.zero ?_
    rw [hy]
    exact fin BS (by omega) hb
  | r + 1, i, ys, BS, hk, hl, hy, hb => by
    refine LCg.CompRest.succ ?_
    intro v I oI C oC D m₂ h tk E' hv hC hx F N off ne
    obtain ⟨t9, rfl⟩ := hv
    refine ballot_elt2 (csc := csc) (i := i) (nl := nl) hP B1 F X1 (News.sub N (by
      intro q hq
      rcases List.mem_cons.mp hq with rfl | hq
      · exact .tail _ (.head _)
      refine .tail _ (.tail _ (.tail _ (List.mem_append_right _ ?_)))
      rcases List.mem_cons.mp hq with rfl | hq
      · exact .head _
      rcases List.mem_cons.mp hq with rfl | hq
      · exact .tail _ (.head _)
      rcases List.mem_cons.mp hq with rfl | hq
      · exact .tail _ (.tail _ (.head _))
      · cases hq)) T1 (by omega) dw dn hC hx (fun b cb h' tk' FA NA KA hs => ?_)
    have lb := bigs N hs
    have NR := keeps_but KA (News.sub N (mem_one (.tail _ (.tail _ (.tail _ (List.mem_append_right _ (.head _))))))) (News.sub NA (mem_one (.tail _ (.head _)))) N (fun p hp => .inl hp)
    refine LCg.CompEnd.intro FA (News.app (News.sub NA (mem_one (.head _))) NR) ((BS ++ [(⟨b, balL (bitsOf wv i) [.int (ln0 c) u0, .int (ln1 c) u1, .int (ln2 c) u2, .int (ln3 c) u3], cb⟩ : Bal)]).map balObj ++ ((nl, listOf #[.int (ln0 c) u0, .int (ln1 c) u1, .int (ln2 c) u2, .int (ln3 c) u3] nn) :: (L1 + 1 + 1, on) :: (L1 + 1, ow) :: led)) (by
      intro q hq
      simp only [List.map_append, List.map_cons, List.map_nil, List.mem_append, List.mem_cons, List.not_mem_nil, or_false] at hq ⊢
      rcases hq with hq | hq | hq | (hq | hq) | hq
      · exact .inr (.inl hq)
      · exact .inr (.inr (.inl hq))
      · exact .inr (.inr (.inr (.inl hq)))
      · exact .inr (.inr (.inr (.inr (.inl hq))))
      · exact .inl hq
      · exact .inr (.inr (.inr (.inr (.inr hq))))) (LCg.Off3.of ?_) trivial ?_
    · intro q hq
      rw [List.map_append, List.append_assoc] at hq
      rcases List.mem_append.mp hq with hq | hq
      · exact off.mem q (List.mem_append_left _ hq)
      rcases List.mem_append.mp hq with hq | hq
      · rw [List.mem_singleton.mp hq]
        exact ⟨Nat.ne_of_gt (lb _ (.head _)), Nat.ne_of_gt (lb _ (.tail _ (.head _))), Nat.ne_of_gt (lb _ (.tail _ (.tail _ (.head _))))⟩
      · exact off.mem q (List.mem_append_right _ hq)
    · refine ball_rest hP B1 X1 T1 dw dn fin r (i + 1) (ys ++ [.ref b]) (BS ++ [(⟨b, balL (bitsOf wv i) [.int (ln0 c) u0, .int (ln1 c) u1, .int (ln2 c) u2, .int (ln3 c) u3], cb⟩ : Bal)]) (by omega) (by simp [hl]) (by rw [hy]; simp [balRef]) ?_
      intro j bb hj
      by_cases hji : j < BS.length
      · rw [List.getElem?_append_left hji] at hj
        exact hb j bb hj
      · rw [List.getElem?_append_right (by omega)] at hj
        have h0 : j - BS.length = 0 := by
          have := (List.getElem?_eq_some_iff.mp hj).1
          simp at this
          omega
        rw [h0] at hj
        have hji2 : j = i := by omega
        subst hji2
        cases hj
        rfl
set_option maxHeartbeats 8000000 in
theorem ballots_stmt {w : World} {A₀ : Around} {base g : Heap} {L1 fa : Addr} {cd : Value} {mg mb : Str → Option Value} {s : Shared} {Q : Flow → Shared → Prop} {E : Value → Shared → Prop} {p : Program} {loose : List Str} {mean : ExcName → Option Value} {nm : Str} {sc : Scope} {S : Stmt} {ow on : Obj} {m : Str → Option Value} {nl : Addr} {wv c : Int} {tw u0 u1 u2 u3 : Tok} {nn : Nat} {led : List (Addr × Obj)}
    (hP : ballotsSt = some (sc, S)) (B1 : Below A₀ base [] g)
    (F0 : Fr g L1 s.heap m) (X1 : (Mine.KL w.params).In g)
    (N0 : News g L1 s.heap ((nl, listOf #[.int (ln0 c) u0, .int (ln1 c) u1, .int (ln2 c) u2, .int (ln3 c) u3] nn) :: (L1 + 1 + 1, on) :: (L1 + 1, ow) :: led)) (T1 : Top p loose mean mg mb g) (dw : ow.data = .cell (some (.int wv tw))) (dn : on.data = .cell (some (.ref nl)))
    (hret : ∀ (BS : List Bal) D m' h' tk', BS.length = 5 → BOk c wv u0 u1 u2 u3 BS → m' (Str.ofString "ballots") = some (.ref D) → (∀ y, y ≠ Str.ofString "ballots" → m' y = m y) → Fr g L1 h' m' → News g L1 h' ((D, listOf (List.toArray (BS.map balRef)) 5) :: (BS.map balObj ++ ((nl, listOf #[.int (ln0 c) u0, .int (ln1 c) u1, .int (ln2 c) u2, .int (ln3 c) u3] nn) :: (L1 + 1 + 1, on) :: (L1 + 1, ow) :: led))) → Q .next { s with heap := h', toks := tk' }) :
    wpAny (model PySem.Challenge.rw_st0010_01.row.prog w) (callerA.deeper (envOfC nm sc L1 fa cd)) (exec S (envOfC nm sc L1 fa cd)) Q E s := by
  obtain ⟨h0, g0, r9, k0, os0⟩ := s
  dsimp only at F0 N0 hret ⊢
  conv at hP => lhs; whnf
  injection hP with hP
  injection hP with hP1 hP2
  subst hP1 hP2
  revert X1; k_fill; intro X1
  refine LCg.Assign_ListComp_U (F₀ := F0) (by rfl) (by with_unfolding_all rfl) (by with_unfolding_all rfl) (by decide) (by rfl) (by decide) (by rfl) (by rfl) (by rfl) ?_
  repeat' ((fail_if_success (with_reducible show wpAny _ _ (newList _) _ _ _)); (fail_if_success (with_reducible show LCg.CompSrc _ _ _ _ _ _ _ _ _ _ _ _ _ _)); (fail_if_success (with_reducible show ∃ _, _)); (fail_if_success (with_reducible show LeaveK h₀ _ _ _ _ _ _)); (fail_if_success (with_reducible show wpAny _ _ (call (Value.ref 94) _) _ _ _)); (fail_if_success (with_reducible show wpAny _ _ (call (Value.ref 101) _) _ _ _)); (fail_if_success (with_reducible show wpAny _ _ (call (Value.ref 106) _) _ _ _)); (fail_if_success (with_reducible show wpAny _ _ (call (Value.ref 87) _) _ _ _)); (fail_if_success (with_reducible show wpAny _ _ (call (Value.ref 113) _) _ _ _)); (fail_if_success (with_reducible show wpAny _ _ (call (Value.ref 118) _) _ _ _)); (fail_if_success (with_reducible show wpAny _ _ (call (Value.ref 56) _) _ _ _)); first | (k_unfold; (try dsimp only)) | (k_end; wrow_close) | walk1 | (dsimp only; walk1) | (leave1; walk_say "STEP leave1"; try dsimp only) | fail "no step")
  rename Fr g _ _ _ => F9
  rename News g _ _ _ => N9
  rename IsRange _ _ _ _ _ _ _ _ => hrg
  refine LCg.CompSrc.range (n := 5) (by rfl) F9 N9 hrg (by rfl) (by rfl) (by rw [sizeLine_eq]; omega) (fun g' => ?_)
  refine ball_rest rfl B1 X1 T1 dw dn (fun BS h5 hB => ?_) 5 0 [] [] rfl rfl rfl (fun i b h => by simp at h)
  intro D hD tkD FD ND oD
  refine hret BS D _ hD tkD h5 hB (if_pos rfl) (fun y hy => if_neg hy) FD ?_
  have e5 : LCg.lst (BS.map balRef) = listOf (List.toArray (BS.map balRef)) 5 := by
    show listOf (List.toArray (BS.map balRef)) (BS.map balRef).length = _
    rw [List.length_map, h5]
  rw [← e5]
  exact ND
-- V1
noncomputable def lawAt (i : Nat) : Option (Scope × Stmt) := match lawOf with
  | some (sc, ss) => (ss[i]?).map fun q => (sc, q)
  | none => none
noncomputable def goneSt : Option (Scope × Stmt) := lawAt 6
set_option maxHeartbeats 8000000 in
theorem text_stmt {w : World} {A₀ : Around} {base g : Heap} {L1 fa : Addr} {cd : Value} {mg mb : Str → Option Value} {s : Shared} {Q : Flow → Shared → Prop} {E : Value → Shared → Prop} {p : Program} {loose : List Str} {mean : ExcName → Option Value} {nm : Str} {sc : Scope} {m : Str → Option Value} {led : List (Addr × Obj)} {S : Stmt} {ow : Obj} {bl : Addr} {bn : Nat} {st sp : Int} {tst tsp : Tok} {TS : List TB}
    (hP : lawAt 4 = some (sc, S)) (B1 : Below A₀ base [] g) (F0 : Fr g L1 s.heap m) (X1 : (Mine.KL w.params).In g) (T1 : Top p loose mean mg mb g) (N0 : News g L1 s.heap ((L1 + 1, ow) :: led)) (dw : ow.data = .cell (some (.int sp tsp))) (hbal : m (Str.ofString "ballots") = some (.ref bl)) (hgr : m (Str.ofString "ground") = some (.int st tst)) (hal : (bl, listOf (List.toArray (TS.map tbRef)) bn) ∈ led) (hB : ∀ b ∈ TS, TbOk b ∧ tbObj b ∈ led) (h5 : TS.length ≤ 5)
    (hret : ∀ t m' h' tk', m' (Str.ofString "text") = some (.str ⟨(bodyGo sp st (TS.map TB.xs)).toArray⟩ t) → (∀ y, y ≠ Str.ofString "text" → m' y = m y) → Fr g L1 h' m' → News g L1 h' ((L1 + 1, ow) :: led) → Q .next { s with heap := h', toks := tk' }) :
    wpAny (model PySem.Challenge.rw_st0010_01.row.prog w) (callerA.deeper (envOfC nm sc L1 fa cd)) (exec S (envOfC nm sc L1 fa cd)) Q E s := by
  obtain ⟨h0, g0, r9, k0, os0⟩ := s
  dsimp only at F0 N0 hret ⊢
  conv at hP => lhs; whnf
  injection hP with hP
  injection hP with hP1 hP2
  subst hP1 hP2
  revert X1; k_fill; intro X1
  repeat' ((fail_if_success (with_reducible show wpAny _ _ (call (Value.ref 106) _) _ _ _)); (fail_if_success (with_reducible show ∃ _, _)); (fail_if_success (with_reducible show LeaveK h₀ _ _ _ _ _ _)); first | (k_unfold; (try dsimp only)) | (k_end; wrow_close) | (first | ((with_reducible show wpAny _ _ (eval (PySem.Expr.Name _ _) _) _ _ _); with_reducible ((k_here; k_dflt (refine' nameX_L ?F ?v ?_ ?a ?b; (case F => k_asm); (case a => rfl); (case b => rfl); (case v => with_reducible assumption); k_whole)))) | walk1) | (dsimp only; (first | ((with_reducible show wpAny _ _ (eval (PySem.Expr.Name _ _) _) _ _ _); with_reducible ((k_here; k_dflt (refine' nameX_L ?F ?v ?_ ?a ?b; (case F => k_asm); (case a => rfl); (case b => rfl); (case v => with_reducible assumption); k_whole)))) | walk1)) | (leave1; walk_say "STEP leave1"; try dsimp only) | fail "no step")
  (refine' wpAny_le (A' := ktrTop 500 500 callerA.guards nm ?cst L1 fa cd ?clt []) ?hht ?a1t ?a2t ?a3t ?a4t ?a5t; (case a3t => exact rfl); (case a1t => exact rfl); (case a2t => exact Nat.le_of_ble_eq_true rfl); (case a4t => exact rfl); (case a5t => exact Nat.le_of_ble_eq_true rfl))
  refine spec_textX B1 F0 X1 T1 rfl N0 (.tail _ hal) (fun b hb => ⟨(hB b hb).1, .tail _ (hB b hb).2⟩) h5 fun t h' tk' FA NA KA => ?_
  clear F0 N0 KA
  dsimp only
  repeat' ((fail_if_success (with_reducible show wpAny _ _ (call (Value.ref 106) _) _ _ _)); (fail_if_success (with_reducible show ∃ _, _)); (fail_if_success (with_reducible show LeaveK h₀ _ _ _ _ _ _)); first | (k_unfold; (try dsimp only)) | (k_end; wrow_close) | (first | ((with_reducible show wpAny _ _ (eval (PySem.Expr.Name _ _) _) _ _ _); with_reducible ((k_here; k_dflt (refine' nameX_L ?F ?v ?_ ?a ?b; (case F => k_asm); (case a => rfl); (case b => rfl); (case v => with_reducible assumption); k_whole)))) | walk1) | (dsimp only; (first | ((with_reducible show wpAny _ _ (eval (PySem.Expr.Name _ _) _) _ _ _); with_reducible ((k_here; k_dflt (refine' nameX_L ?F ?v ?_ ?a ?b; (case F => k_asm); (case a => rfl); (case b => rfl); (case v => with_reducible assumption); k_whole)))) | walk1)) | (leave1; walk_say "STEP leave1"; try dsimp only) | fail "no step")
  exact hret t _ _ _ (if_pos rfl) (fun y hy => if_neg hy) (by assumption) (by assumption)
set_option maxHeartbeats 8000000 in
theorem lex_stmt {w : World} {A₀ : Around} {base g : Heap} {L1 fa : Addr} {cd : Value} {mg mb : Str → Option Value} {s : Shared} {Q : Flow → Shared → Prop} {E : Value → Shared → Prop} {p : Program} {loose : List Str} {mean : ExcName → Option Value} {nm : Str} {sc : Scope} {m : Str → Option Value} {led : List (Addr × Obj)} {S : Stmt} {txt : List Nat} {tt : Tok}
    (hP : lawAt 5 = some (sc, S)) (B1 : Below A₀ base [] g) (F0 : Fr g L1 s.heap m) (X1 : (Mine.KL w.params).In g) (T1 : Top p loose mean mg mb g) (N0 : News g L1 s.heap ((82, tabObj #[]) :: led)) (htx : m (Str.ofString "text") = some (.str ⟨txt.toArray⟩ tt)) (hlen : txt.length ≤ 1000) (C : CodeHd base 86 82) (h82 : ∀ q ∈ led, (82 : Addr) ≠ q.1)
    (hret : ∀ (c : LxP) l ps m' h' tk', LxOk c → LxAt w c 1 [] txt l → (∀ q ∈ (82, tabObj #[]) :: led, @LT.lt Nat _ q.1 c.ce) → m' (Str.ofString "lexer") = some (.ref c.lx) → (∀ y, y ≠ Str.ofString "lexer" → m' y = m y) → Fr g L1 h' m' → News g L1 h' (l ++ ((82, tabObj ps) :: led)) → Q .next { s with heap := h', toks := tk' }) :
    wpAny (model PySem.Challenge.rw_st0010_01.row.prog w) (callerA.deeper (envOfC nm sc L1 fa cd)) (exec S (envOfC nm sc L1 fa cd)) Q E s := by
  obtain ⟨h0, g0, r9, k0, os0⟩ := s
  dsimp only at F0 N0 hret ⊢
  conv at hP => lhs; whnf
  injection hP with hP
  injection hP with hP1 hP2
  subst hP1 hP2
  revert X1; k_fill; intro X1
  repeat' ((fail_if_success (with_reducible show wpAny _ _ (call (Value.ref 87) _) _ _ _)); (fail_if_success (with_reducible show ∃ _, _)); (fail_if_success (with_reducible show LeaveK h₀ _ _ _ _ _ _)); first | (k_unfold; (try dsimp only)) | (k_end; wrow_close) | (first | ((with_reducible show wpAny _ _ (eval (PySem.Expr.Name _ _) _) _ _ _); with_reducible ((k_here; k_dflt (refine' nameX_L ?F ?v ?_ ?a ?b; (case F => k_asm); (case a => rfl); (case b => rfl); (case v => with_reducible assumption); k_whole)))) | walk1) | (dsimp only; (first | ((with_reducible show wpAny _ _ (eval (PySem.Expr.Name _ _) _) _ _ _); with_reducible ((k_here; k_dflt (refine' nameX_L ?F ?v ?_ ?a ?b; (case F => k_asm); (case a => rfl); (case b => rfl); (case v => with_reducible assumption); k_whole)))) | walk1)) | (leave1; walk_say "STEP leave1"; try dsimp only) | fail "no step")
  (refine' wpAny_le (A' := ktrTop 500 500 callerA.guards nm ?csx L1 fa cd ?clx []) ?hhx ?a1x ?a2x ?a3x ?a4x ?a5x; (case a3x => exact rfl); (case a1x => exact rfl); (case a2x => exact Nat.le_of_ble_eq_true rfl); (case a4x => exact rfl); (case a5x => exact Nat.le_of_ble_eq_true rfl))
  refine spec_lexer B1 F0 X1 T1 rfl ⟨txt.toArray⟩ tt (by show txt.toArray.size ≤ 1000; simpa using hlen) C (News.sub N0 (mem_one (.head _))) fun lx dl pb fn cc st ds sg ce pb2 k1 k2 k3 k4 k5 j1 j2 j3 j4 j5 j6 j7 tq qual pm ctv oc oce ocv lamP lamB lamS tno ys sn h' tk' FA NA KA hS ho hsz hoc hoq hce hlam => ?_
  obtain ⟨yl⟩ := ys
  have NR := keeps_but (rest := led) KA (News.sub N0 (mem_one (.head _))) NA (News.sub N0 fun p hp => .tail _ hp) (fun p hp => .inr (by rw [List.mem_singleton.mp hp]; exact h82))
  have lb := bigs N0 hsz
  let c : LxP := ⟨lx, dl, pb, fn, cc, st, ds, sg, ce, pb2, k1, k2, k3, k4, k5, j1, j2, j3, j4, j5, j6, j7, tq, qual, pm, ctv, oc, oce, ocv, lamP, lamB, lamS⟩
  have NA2 : News g L1 h' (lexL w c 1 tno [] 0 yl sn ++ [(82, tabObj (#[] ++ #[rawInt ((107 : Nat) : Int), rawInt ((18 : Nat) : Int), .ref cc]))]) := NA
  have NB : News g L1 h' (lexL w c 1 tno [] 0 yl sn ++ ((82, tabObj (#[] ++ #[rawInt ((107 : Nat) : Int), rawInt ((18 : Nat) : Int), .ref cc])) :: led)) := News.sub (News.app NA2 NR) fun q hq => by rw [List.append_assoc]; exact hq
  clear F0 N0 NA NA2 NR KA
  dsimp only
  repeat' ((fail_if_success (with_reducible show wpAny _ _ (call (Value.ref 87) _) _ _ _)); (fail_if_success (with_reducible show ∃ _, _)); (fail_if_success (with_reducible show LeaveK h₀ _ _ _ _ _ _)); first | (k_unfold; (try dsimp only)) | (k_end; wrow_close) | (first | ((with_reducible show wpAny _ _ (eval (PySem.Expr.Name _ _) _) _ _ _); with_reducible ((k_here; k_dflt (refine' nameX_L ?F ?v ?_ ?a ?b; (case F => k_asm); (case a => rfl); (case b => rfl); (case v => with_reducible assumption); k_whole)))) | walk1) | (dsimp only; (first | ((with_reducible show wpAny _ _ (eval (PySem.Expr.Name _ _) _) _ _ _); with_reducible ((k_here; k_dflt (refine' nameX_L ?F ?v ?_ ?a ?b; (case F => k_asm); (case a => rfl); (case b => rfl); (case v => with_reducible assumption); k_whole)))) | walk1)) | (leave1; walk_say "STEP leave1"; try dsimp only) | fail "no step")
  exact hret c (lexL w c 1 tno [] 0 yl sn) _ _ _ _ ⟨ho, hoc, hoq, hce, hlam⟩ ⟨tno, [], 0, yl, sn, rfl, .nil, hS⟩ lb (if_pos rfl) (fun y hy => if_neg hy) (by assumption) (by assumption)
set_option maxHeartbeats 8000000 in
theorem gone_stmt {w : World} {A₀ : Around} {base g : Heap} {L1 fa : Addr} {cd : Value} {mg mb : Str → Option Value} {s : Shared} {Q : Flow → Shared → Prop} {E : Value → Shared → Prop} {p : Program} {loose : List Str} {mean : ExcName → Option Value} {nm : Str} {sc : Scope} {S : Stmt} {og : Obj} {vg : Option Value} {m : Str → Option Value} {led : List (Addr × Obj)}
    (hP : goneSt = some (sc, S)) (B1 : Below A₀ base [] g)
    (F0 : Fr g L1 s.heap m) (X1 : (Mine.KL w.params).In g)
    (N0 : News g L1 s.heap ((L1 + 1 + 1 + 1 + 1, og) :: led)) (T1 : Top p loose mean mg mb g) (dg : og.data = .cell vg) (hg : ∀ q ∈ led, q.1 ≠ L1 + 1 + 1 + 1 + 1)
    (hret : ∀ gl og' h' tk', og'.data = .cell (some (.ref gl)) → (∀ q ∈ (L1 + 1 + 1 + 1 + 1, og) :: led, @LT.lt Nat _ q.1 gl) → Fr g L1 h' m → News g L1 h' ((gl, listOf #[] 0) :: (L1 + 1 + 1 + 1 + 1, og') :: led) → Q .next { s with heap := h', toks := tk' }) :
    wpAny (model PySem.Challenge.rw_st0010_01.row.prog w) (callerA.deeper (envOfC nm sc L1 fa cd)) (exec S (envOfC nm sc L1 fa cd)) Q E s := by
  obtain ⟨h0, g0, r9, k0, os0⟩ := s
  dsimp only at F0 N0 hret ⊢
  conv at hP => lhs; whnf
  injection hP with hP
  injection hP with hP1 hP2
  subst hP1 hP2
  revert X1; k_fill; intro X1
  repeat' ((fail_if_success (with_reducible show wpAny _ _ (newList _) _ _ _)); (fail_if_success (with_reducible show wpAny _ _ (storeName _ _ _) _ _ _)); (fail_if_success (with_reducible show ∃ _, _)); (fail_if_success (with_reducible show LeaveK h₀ _ _ _ _ _ _)); (fail_if_success (with_reducible show wpAny _ _ (call (Value.ref 94) _) _ _ _)); (fail_if_success (with_reducible show wpAny _ _ (call (Value.ref 101) _) _ _ _)); (fail_if_success (with_reducible show wpAny _ _ (call (Value.ref 106) _) _ _ _)); (fail_if_success (with_reducible show wpAny _ _ (call (Value.ref 87) _) _ _ _)); (fail_if_success (with_reducible show wpAny _ _ (call (Value.ref 113) _) _ _ _)); (fail_if_success (with_reducible show wpAny _ _ (call (Value.ref 118) _) _ _ _)); (fail_if_success (with_reducible show wpAny _ _ (call (Value.ref 56) _) _ _ _)); first | (k_unfold; (try dsimp only)) | (k_end; wrow_close) | (first | ((with_reducible show wpAny _ _ (eval (PySem.Expr.Name _ _) _) _ _ _); with_reducible ((k_here; k_dflt (refine' nameX_L ?F ?v ?_ ?a ?b; (case F => k_asm); (case a => rfl); (case b => rfl); (case v => with_reducible assumption); k_whole)))) | walk1) | (dsimp only; (first | ((with_reducible show wpAny _ _ (eval (PySem.Expr.Name _ _) _) _ _ _); with_reducible ((k_here; k_dflt (refine' nameX_L ?F ?v ?_ ?a ?b; (case F => k_asm); (case a => rfl); (case b => rfl); (case v => with_reducible assumption); k_whole)))) | walk1)) | (leave1; walk_say "STEP leave1"; try dsimp only) | fail "no step")
  refine newList_K2 F0 N0 (fun gl hA FA NA lA lA2 => ?_) (by size_fits)
  clear F0 N0
  dsimp only
  repeat' ((fail_if_success (with_reducible show wpAny _ _ (newList _) _ _ _)); (fail_if_success (with_reducible show wpAny _ _ (storeName _ _ _) _ _ _)); (fail_if_success (with_reducible show ∃ _, _)); (fail_if_success (with_reducible show LeaveK h₀ _ _ _ _ _ _)); (fail_if_success (with_reducible show wpAny _ _ (call (Value.ref 94) _) _ _ _)); (fail_if_success (with_reducible show wpAny _ _ (call (Value.ref 101) _) _ _ _)); (fail_if_success (with_reducible show wpAny _ _ (call (Value.ref 106) _) _ _ _)); (fail_if_success (with_reducible show wpAny _ _ (call (Value.ref 87) _) _ _ _)); (fail_if_success (with_reducible show wpAny _ _ (call (Value.ref 113) _) _ _ _)); (fail_if_success (with_reducible show wpAny _ _ (call (Value.ref 118) _) _ _ _)); (fail_if_success (with_reducible show wpAny _ _ (call (Value.ref 56) _) _ _ _)); first | (k_unfold; (try dsimp only)) | (k_end; wrow_close) | (first | ((with_reducible show wpAny _ _ (eval (PySem.Expr.Name _ _) _) _ _ _); with_reducible ((k_here; k_dflt (refine' nameX_L ?F ?v ?_ ?a ?b; (case F => k_asm); (case a => rfl); (case b => rfl); (case v => with_reducible assumption); k_whole)))) | walk1) | (dsimp only; (first | ((with_reducible show wpAny _ _ (eval (PySem.Expr.Name _ _) _) _ _ _); with_reducible ((k_here; k_dflt (refine' nameX_L ?F ?v ?_ ?a ?b; (case F => k_asm); (case a => rfl); (case b => rfl); (case v => with_reducible assumption); k_whole)))) | walk1)) | (leave1; walk_say "STEP leave1"; try dsimp only) | fail "no step")
  refine storeX_C (v₀ := vg) (o := og) (c := L1 + 1 + 1 + 1 + 1) FA NA rfl (UpdF.tail (Nat.ne_of_gt (lA _ (.head _))) (UpdF.head hg)) dg (fun h2 og2 F2 N2 hog2 => ?_) rfl rfl
  dsimp only at N2 ⊢
  repeat' ((fail_if_success (with_reducible show wpAny _ _ (newList _) _ _ _)); (fail_if_success (with_reducible show ∃ _, _)); (fail_if_success (with_reducible show LeaveK h₀ _ _ _ _ _ _)); (fail_if_success (with_reducible show wpAny _ _ (call (Value.ref 94) _) _ _ _)); (fail_if_success (with_reducible show wpAny _ _ (call (Value.ref 101) _) _ _ _)); (fail_if_success (with_reducible show wpAny _ _ (call (Value.ref 106) _) _ _ _)); (fail_if_success (with_reducible show wpAny _ _ (call (Value.ref 87) _) _ _ _)); (fail_if_success (with_reducible show wpAny _ _ (call (Value.ref 113) _) _ _ _)); (fail_if_success (with_reducible show wpAny _ _ (call (Value.ref 118) _) _ _ _)); (fail_if_success (with_reducible show wpAny _ _ (call (Value.ref 56) _) _ _ _)); first | (k_unfold; (try dsimp only)) | (k_end; wrow_close) | (first | ((with_reducible show wpAny _ _ (eval (PySem.Expr.Name _ _) _) _ _ _); with_reducible ((k_here; k_dflt (refine' nameX_L ?F ?v ?_ ?a ?b; (case F => k_asm); (case a => rfl); (case b => rfl); (case v => with_reducible assumption); k_whole)))) | walk1) | (dsimp only; (first | ((with_reducible show wpAny _ _ (eval (PySem.Expr.Name _ _) _) _ _ _); with_reducible ((k_here; k_dflt (refine' nameX_L ?F ?v ?_ ?a ?b; (case F => k_asm); (case a => rfl); (case b => rfl); (case v => with_reducible assumption); k_whole)))) | walk1)) | (leave1; walk_say "STEP leave1"; try dsimp only) | fail "no step")
  exact hret gl og2 _ _ hog2 lA F2 N2
-- B1
theorem ln_pw (c : Int) : [ln0 c, ln1 c, ln2 c, ln3 c].Pairwise (· ≤ ·) := by
  have := ln_order c
  simp only [List.pairwise_cons, List.mem_cons, List.not_mem_nil, or_false, List.Pairwise.nil, and_true, forall_eq_or_imp, forall_eq, false_implies, implies_true]
  omega
theorem perm_all : ((List.range 4).all fun a => (List.range 4).all fun b => (List.range 4).all fun c => (List.range 4).all fun d => (a == b || a == c || a == d || b == c || b == d || c == d || List.isPerm [a, b, c, d] [0, 1, 2, 3])) = true := by decide +kernel
theorem perm_of (c : Int) {G : Nat → Nat} (h4 : ∀ i, i < 4 → G i < 4) (hn : ∀ i j, j < 4 → i < j → G i ≠ G j) : [lnF c (G 0), lnF c (G 1), lnF c (G 2), lnF c (G 3)].Perm [ln0 c, ln1 c, ln2 c, ln3 c] := by
  have m := perm_all
  simp only [List.all_eq_true, List.mem_range] at m
  have h := m (G 0) (h4 0 (by omega)) (G 1) (h4 1 (by omega)) (G 2) (h4 2 (by omega)) (G 3) (h4 3 (by omega))
  simp only [beq_eq_false_iff_ne.mpr (hn 0 1 (by omega) (by omega)), beq_eq_false_iff_ne.mpr (hn 0 2 (by omega) (by omega)), beq_eq_false_iff_ne.mpr (hn 0 3 (by omega) (by omega)), beq_eq_false_iff_ne.mpr (hn 1 2 (by omega) (by omega)), beq_eq_false_iff_ne.mpr (hn 1 3 (by omega) (by omega)), beq_eq_false_iff_ne.mpr (hn 2 3 (by omega) (by omega)), Bool.false_or] at h
  exact (List.isPerm_iff.mp h).map (lnF c)
set_option maxHeartbeats 8000000 in
theorem sort_stmt {w : World} {A₀ : Around} {base g : Heap} {L1 fa : Addr} {cd : Value} {mg mb : Str → Option Value} {s : Shared} {Q : Flow → Shared → Prop} {E : Value → Shared → Prop} {p : Program} {loose : List Str} {mean : ExcName → Option Value} {nm : Str} {sc : Scope} {S : Stmt} {on og : Obj} {m : Str → Option Value} {nl gl : Addr} {c : Int} {u0 u1 u2 u3 t0 t1 t2 t3 : Tok} {nn gn : Nat} {z : Nat → Int} {led : List (Addr × Obj)}
    (hP : lawAt 8 = some (sc, S)) (B1 : Below A₀ base [] g)
    (F0 : Fr g L1 s.heap m) (X1 : (Mine.KL w.params).In g)
    (N0 : News g L1 s.heap ((gl, listOf #[Value.int (z 0) t0, Value.int (z 1) t1, Value.int (z 2) t2, Value.int (z 3) t3] gn) :: (L1 + 1 + 1 + 1 + 1, og) :: (nl, listOf #[.int (ln0 c) u0, .int (ln1 c) u1, .int (ln2 c) u2, .int (ln3 c) u3] nn) :: (L1 + 1 + 1, on) :: led)) (T1 : Top p loose mean mg mb g) (dg : og.data = .cell (some (.ref gl))) (dn : on.data = .cell (some (.ref nl))) (hz : [z 0, z 1, z 2, z 3].Perm [ln0 c, ln1 c, ln2 c, ln3 c])
    (hret : ∀ h' tk', Fr g L1 h' m → News g L1 h' ((gl, listOf #[Value.int (z 0) t0, Value.int (z 1) t1, Value.int (z 2) t2, Value.int (z 3) t3] gn) :: (L1 + 1 + 1 + 1 + 1, og) :: (nl, listOf #[.int (ln0 c) u0, .int (ln1 c) u1, .int (ln2 c) u2, .int (ln3 c) u3] nn) :: (L1 + 1 + 1, on) :: led) → Q .next { s with heap := h', toks := tk' }) :
    wpAny (model PySem.Challenge.rw_st0010_01.row.prog w) (callerA.deeper (envOfC nm sc L1 fa cd)) (exec S (envOfC nm sc L1 fa cd)) Q E s := by
  obtain ⟨h0, g0, r9, k0, os0⟩ := s
  dsimp only at F0 N0 hret ⊢
  conv at hP => lhs; whnf
  injection hP with hP
  injection hP with hP1 hP2
  subst hP1 hP2
  revert X1; k_fill; intro X1
  repeat' ((fail_if_success (with_reducible show wpAny _ _ (newList _) _ _ _)); (fail_if_success (with_reducible show wpAny _ _ (compareOp _ _ _) _ _ _)); (fail_if_success (with_reducible show wpAny _ _ (callWith _ _) _ _ _)); (fail_if_success (with_reducible show ∃ _, _)); (fail_if_success (with_reducible show LeaveK h₀ _ _ _ _ _ _)); (fail_if_success (with_reducible show wpAny _ _ (call (Value.ref 94) _) _ _ _)); (fail_if_success (with_reducible show wpAny _ _ (call (Value.ref 101) _) _ _ _)); (fail_if_success (with_reducible show wpAny _ _ (call (Value.ref 106) _) _ _ _)); (fail_if_success (with_reducible show wpAny _ _ (call (Value.ref 87) _) _ _ _)); (fail_if_success (with_reducible show wpAny _ _ (call (Value.ref 113) _) _ _ _)); (fail_if_success (with_reducible show wpAny _ _ (call (Value.ref 118) _) _ _ _)); (fail_if_success (with_reducible show wpAny _ _ (call (Value.ref 56) _) _ _ _)); first | (k_unfold; (try dsimp only)) | (k_end; wrow_close) | walk1 | (dsimp only; walk1) | (leave1; walk_say "STEP leave1"; try dsimp only) | fail "no step")
  rename IntsAre _ _ => i9
  rename List.Perm _ [z 0, z 1, z 2, z 3] => p9
  rename List.Pairwise _ _ => o9
  rename Fr g _ _ _ => F9
  rename News g _ _ _ => N9
  have e9 := List.Perm.eq_of_pairwise (fun _ _ _ _ a b => Int.le_antisymm a b) o9 (ln_pw c) (p9.trans hz)
  have NR : News g L1 _ ((gl, listOf #[Value.int (z 0) t0, Value.int (z 1) t1, Value.int (z 2) t2, Value.int (z 3) t3] gn) :: (L1 + 1 + 1 + 1 + 1, og) :: (nl, listOf #[.int (ln0 c) u0, .int (ln1 c) u1, .int (ln2 c) u2, .int (ln3 c) u3] nn) :: (L1 + 1 + 1, on) :: led) := News.sub N9 fun p hp => .tail _ hp
  refine ke_ne_ints ⟨_, (N9 _ (.head _)).1, rfl, _, rfl⟩ ⟨_, (NR _ (.tail _ (.tail _ (.head _)))).1, rfl, nn, rfl⟩ i9 (.cons _ _ (.cons _ _ (.cons _ _ (.cons _ _ .nil)))) (by first | units_room | exact Nat.le_of_ble_eq_true rfl) ?_
  rw [e9]
  simp only [decide_true, Bool.not_true]
  clear N9 i9 p9 o9 e9
  repeat' ((fail_if_success (with_reducible show wpAny _ _ (newList _) _ _ _)); (fail_if_success (with_reducible show wpAny _ _ (compareOp _ _ _) _ _ _)); (fail_if_success (with_reducible show wpAny _ _ (callWith _ _) _ _ _)); (fail_if_success (with_reducible show ∃ _, _)); (fail_if_success (with_reducible show LeaveK h₀ _ _ _ _ _ _)); (fail_if_success (with_reducible show wpAny _ _ (call (Value.ref 94) _) _ _ _)); (fail_if_success (with_reducible show wpAny _ _ (call (Value.ref 101) _) _ _ _)); (fail_if_success (with_reducible show wpAny _ _ (call (Value.ref 106) _) _ _ _)); (fail_if_success (with_reducible show wpAny _ _ (call (Value.ref 87) _) _ _ _)); (fail_if_success (with_reducible show wpAny _ _ (call (Value.ref 113) _) _ _ _)); (fail_if_success (with_reducible show wpAny _ _ (call (Value.ref 118) _) _ _ _)); (fail_if_success (with_reducible show wpAny _ _ (call (Value.ref 56) _) _ _ _)); first | (k_unfold; (try dsimp only)) | (k_end; wrow_close) | walk1 | (dsimp only; walk1) | (leave1; walk_say "STEP leave1"; try dsimp only) | fail "no step")
  exact hret _ _ F9 NR
-- C1
theorem cnt_nls : ∀ l : List Nat, (cnt 10 l : Int) = nls l
  | [] => rfl
  | c :: l => by
    have ih := cnt_nls l
    show _ = nl c + nls l
    rw [← ih, cnt_cons]
    unfold nl
    by_cases h : c = 10 <;> simp [h, eq_comm]
theorem count_nls (l : List Nat) : Txt.count (Str.mk l.toArray) (Str.ofString "
") = nls l := by
  have e : Str.ofString "
" = Str.mk #[10] := by decide +kernel
  rw [e, count_cnt]
  exact cnt_nls l
set_option maxHeartbeats 8000000 in
theorem ret_stmt {w : World} {A₀ : Around} {base g : Heap} {L1 fa : Addr} {cd : Value} {mg mb : Str → Option Value} {s : Shared} {Q : Flow → Shared → Prop} {E : Value → Shared → Prop} {p : Program} {loose : List Str} {mean : ExcName → Option Value} {nm : Str} {sc : Scope} {m : Str → Option Value} {led : List (Addr × Obj)} {S : Stmt} {c : LxP} {no : Int} {tno tt : Tok} {txt : List Nat}
    (hP : lawAt 10 = some (sc, S)) (B1 : Below A₀ base [] g) (F0 : Fr g L1 s.heap m) (X1 : (Mine.KL w.params).In g) (T1 : Top p loose mean mg mb g) (N0 : News g L1 s.heap [(c.lx, instObj 59 c.dl), lexD w c no tno]) (hlx : m (Str.ofString "lexer") = some (.ref c.lx)) (htx : m (Str.ofString "text") = some (.str ⟨txt.toArray⟩ tt)) (hno : no = 1 + nls txt) (hlen : txt.length ≤ 1000)
    (hret : ∀ tk', Q (.ret (.bool true)) { s with toks := tk' }) :
    wpAny (model PySem.Challenge.rw_st0010_01.row.prog w) (callerA.deeper (envOfC nm sc L1 fa cd)) (exec S (envOfC nm sc L1 fa cd)) Q E s := by
  obtain ⟨h0, g0, r9, k0, os0⟩ := s
  dsimp only at F0 N0 hret ⊢
  conv at hP => lhs; whnf
  injection hP with hP
  injection hP with hP1 hP2
  subst hP1 hP2
  revert X1; k_fill; intro X1
  unfold lexD at N0
  repeat' ((fail_if_success (with_reducible show wpAny _ _ (newList _) _ _ _)); (fail_if_success (with_reducible show ∃ _, _)); (fail_if_success (with_reducible show LeaveK h₀ _ _ _ _ _ _)); first | (k_unfold; (try dsimp only)) | (k_end; wrow_close) | (first | ((with_reducible show wpAny _ _ (eval (PySem.Expr.Name _ _) _) _ _ _); with_reducible ((k_here; k_dflt (refine' nameX_L ?F ?v ?_ ?a ?b; (case F => k_asm); (case a => rfl); (case b => rfl); (case v => with_reducible assumption); k_whole)))) | walk1) | (dsimp only; (first | ((with_reducible show wpAny _ _ (eval (PySem.Expr.Name _ _) _) _ _ _); with_reducible ((k_here; k_dflt (refine' nameX_L ?F ?v ?_ ?a ?b; (case F => k_asm); (case a => rfl); (case b => rfl); (case v => with_reducible assumption); k_whole)))) | walk1)) | (leave1; walk_say "STEP leave1"; try dsimp only) | fail "no step")
  have e9 : (no == 1 + Txt.count (Str.mk txt.toArray) (Str.ofString "\n")) = true := by
    rw [hno, count_nls]
    exact beq_self_eq_true _
  rw [e9]
  exact hret _
-- G0
section
section
variable {prog : Program} {w : World} {A : Around} {E : Value → Shared → Prop} {s : Shared} {h₀ : Heap} {L l : Addr} {m : Str → Option Value} {news : List (Addr × Obj)}
theorem sum_any {items : Array Value} {k : Nat} {ns : List Int} {Q : Value → Shared → Prop} (hh : A.handled = none) (F : Fr h₀ L s.heap m) (N : News h₀ L s.heap ((l, ({ cls := .type "list", data := .seq items k } : Obj)) :: news)) (hi : IntsAre items.toList ns)
    (h : ∀ z h' t tk, Fr h₀ L h' m → News h₀ L h' news → Q (.int z t) { s with heap := h', toks := tk }) : wpAny (model prog w) A (call (.builtin "sum") [.ref l]) Q E s :=
  LSm.sum_ints F N hh (by rw [Array.toArray_toList]; exact ⟨_, (N _ (.head _)).1, rfl, k, rfl⟩) hi fun h' tk t' F' N' => h _ h' t' tk F' fun p hp => N' p (.tail _ hp)
end
theorem cell_ne {h₀ h : Heap} {L l c : Addr} {news : List (Addr × Obj)} {xs : Array Value} {n : Nat} {o : Obj} {v : Option Value} (N : News h₀ L h news) (hm : (l, listOf xs n) ∈ news) (hc : (c, o) ∈ news) (hd : o.data = .cell v) : l ≠ c := by
  rintro rfl
  have h1 := (N _ hm).1
  have h2 := (N _ hc).1
  have h3 := Option.some.inj (h1.symm.trans h2)
  dsimp only at h3
  rw [← h3] at hd
  cases hd
set_option maxHeartbeats 8000000 in
theorem law_head {w : World} {A₀ : Around} {base g : Heap} {L1 fa : Addr} {cd : Value} {mg mb : Str → Option Value} {s : Shared} {Q : Flow → Shared → Prop} {E : Value → Shared → Prop} {p : Program} {loose : List Str} {mean : ExcName → Option Value} {nm : Str} {sc : Scope} {S : List Stmt} {vs : List Value} {xs : List Int} {ra : Addr} {ow on ok og ol : Obj}
    (hP : lawOf = some (sc, S)) (B1 : Below A₀ base [] g)
    (F0 : Fr g L1 s.heap (fun y => if y = Str.ofString "script" then some (.ref ra) else none)) (X1 : (Mine.KL w.params).In g)
    (N0 : News g L1 s.heap [(L1 + 1 + 1 + 1 + 1 + 1, ol), (L1 + 1 + 1 + 1 + 1, og), (L1 + 1 + 1 + 1, ok), (L1 + 1 + 1, on), (L1 + 1, ow), (82, tabObj #[])]) (T1 : Top p loose mean mg mb g) (hL : g.IsList ra vs.toArray) (hI : IntsAre vs xs) (hlen : xs.length ≤ 63) (l0 : @LT.lt Nat _ 82 L1) (dw : ow.data = .cell none) (dn : on.data = .cell none)
    (hret : ∀ nl nn c tc u0 u1 u2 u3 wv tw ow' on' h' tk', ow'.data = .cell (some (.int wv tw)) → on'.data = .cell (some (.ref nl)) → Fr g L1 h' (fun y => if y = Str.ofString "ground" then some (.int c tc) else if y = Str.ofString "script" then some (.ref ra) else none) → News g L1 h' ((nl, listOf #[.int (ln0 c) u0, .int (ln1 c) u1, .int (ln2 c) u2, .int (ln3 c) u3] nn) :: [(L1 + 1 + 1 + 1 + 1 + 1, ol), (L1 + 1 + 1 + 1 + 1, og), (L1 + 1 + 1 + 1, ok), (L1 + 1 + 1, on'), (L1 + 1, ow'), (82, tabObj #[])]) → wpAny (model PySem.Challenge.rw_st0010_01.row.prog w) (callerA.deeper (envOfC nm sc L1 fa cd)) (execs (S.drop 3) (envOfC nm sc L1 fa cd)) Q E { s with heap := h', toks := tk' }) :
    wpAny (model PySem.Challenge.rw_st0010_01.row.prog w) (callerA.deeper (envOfC nm sc L1 fa cd)) (execs S (envOfC nm sc L1 fa cd)) Q E s := by
  obtain ⟨h0, g0, r9, k0, os0⟩ := s
  dsimp only at F0 N0 hret ⊢
  conv at hP => lhs; whnf
  injection hP with hP
  injection hP with hP1 hP2
  subst hP1 hP2
  dsimp only [List.drop] at hret
  revert X1; k_fill; intro X1
  repeat' ((fail_if_success (with_reducible show wpAny _ _ (execs (Stmt.Assign _ (Expr.ListComp _ _ _ _) _ :: _) _) _ _ _)); (fail_if_success (with_reducible show wpAny _ _ (exec (Stmt.Assign _ (Expr.ListComp _ _ _ _) _) _) _ _ _)); (fail_if_success (with_reducible show ∃ _, _)); (fail_if_success (with_reducible show LeaveK h₀ _ _ _ _ _ _)); (fail_if_success (with_reducible show wpAny _ _ (call (Value.ref 94) _) _ _ _)); (fail_if_success (with_reducible show wpAny _ _ (call (Value.ref 101) _) _ _ _)); (fail_if_success (with_reducible show wpAny _ _ (call (Value.ref 106) _) _ _ _)); (fail_if_success (with_reducible show wpAny _ _ (call (Value.ref 87) _) _ _ _)); (fail_if_success (with_reducible show wpAny _ _ (call (Value.ref 113) _) _ _ _)); (fail_if_success (with_reducible show wpAny _ _ (call (Value.ref 118) _) _ _ _)); (fail_if_success (with_reducible show wpAny _ _ (call (Value.ref 56) _) _ _ _)); first | (k_unfold; (try dsimp only)) | (k_end; wrow_close) | (first | ((with_reducible show wpAny _ _ (call (Value.builtin "sum") _) _ _ _); with_reducible ((k_here; (with_reducible show wpAny _ _ (call (Value.builtin _) [Value.ref _]) _ _ _); k_dflt (refine' sum_any ?hh ?F ?N ?hi ?_; (case hh => exact rfl); (case F => k_asm); (case N => k_asm); (case hi => exact IntsAre.pick (by assumption) _ _ _)); intro z' h' t' k' F' N'; (try k_sweep)))) | walk1) | (dsimp only; (first | ((with_reducible show wpAny _ _ (call (Value.builtin "sum") _) _ _ _); with_reducible ((k_here; (with_reducible show wpAny _ _ (call (Value.builtin _) [Value.ref _]) _ _ _); k_dflt (refine' sum_any ?hh ?F ?N ?hi ?_; (case hh => exact rfl); (case F => k_asm); (case N => k_asm); (case hi => exact IntsAre.pick (by assumption) _ _ _)); intro z' h' t' k' F' N'; (try k_sweep)))) | walk1)) | (leave1; walk_say "STEP leave1"; try dsimp only) | fail "no step")
  rename Fr _ _ _ _ => F9
  rename News _ _ _ _ => N9
  (refine' wpAny_le (A' := ktrTop 500 500 callerA.guards nm ?csL L1 fa cd ?clL []) ?hhL ?a1L ?a2L ?a3L ?a4L ?a5L; (case a3L => exact rfl); (case a1L => exact rfl); (case a2L => exact Nat.le_of_ble_eq_true rfl); (case a4L => exact rfl); (case a5L => exact Nat.le_of_ble_eq_true rfl))
  refine spec_line B1 F9 X1 T1 rfl _ _ fun nl u0 u1 u2 u3 nn h1 tk1 FA NA KA => ?_
  have NB := News.app NA (Keeps.rest KA N9 (fun _ _ _ hp => nomatch hp))
  simp only [List.cons_append, List.nil_append] at NB
  have e4 := cell_ne NB (.head _) (.tail _ (.tail _ (.tail _ (.tail _ (.head _))))) dn
  clear F9 N9 NA KA
  repeat' ((fail_if_success (with_reducible show wpAny _ _ (execs (Stmt.Assign _ (Expr.ListComp _ _ _ _) _ :: _) _) _ _ _)); (fail_if_success (with_reducible show wpAny _ _ (exec (Stmt.Assign _ (Expr.ListComp _ _ _ _) _) _) _ _ _)); (fail_if_success (with_reducible show ∃ _, _)); (fail_if_success (with_reducible show LeaveK h₀ _ _ _ _ _ _)); (fail_if_success (with_reducible show wpAny _ _ (call (Value.ref 94) _) _ _ _)); (fail_if_success (with_reducible show wpAny _ _ (call (Value.ref 101) _) _ _ _)); (fail_if_success (with_reducible show wpAny _ _ (call (Value.ref 106) _) _ _ _)); (fail_if_success (with_reducible show wpAny _ _ (call (Value.ref 87) _) _ _ _)); (fail_if_success (with_reducible show wpAny _ _ (call (Value.ref 113) _) _ _ _)); (fail_if_success (with_reducible show wpAny _ _ (call (Value.ref 118) _) _ _ _)); (fail_if_success (with_reducible show wpAny _ _ (call (Value.ref 56) _) _ _ _)); first | (k_unfold; (try dsimp only)) | (k_end; wrow_close) | (first | ((with_reducible show wpAny _ _ (call (Value.builtin "sum") _) _ _ _); with_reducible ((k_here; (with_reducible show wpAny _ _ (call (Value.builtin _) [Value.ref _]) _ _ _); k_dflt (refine' sum_any ?hh ?F ?N ?hi ?_; (case hh => exact rfl); (case F => k_asm); (case N => k_asm); (case hi => exact IntsAre.pick (by assumption) _ _ _)); intro z' h' t' k' F' N'; (try k_sweep)))) | walk1) | (dsimp only; (first | ((with_reducible show wpAny _ _ (call (Value.builtin "sum") _) _ _ _); with_reducible ((k_here; (with_reducible show wpAny _ _ (call (Value.builtin _) [Value.ref _]) _ _ _); k_dflt (refine' sum_any ?hh ?F ?N ?hi ?_; (case hh => exact rfl); (case F => k_asm); (case N => k_asm); (case hi => exact IntsAre.pick (by assumption) _ _ _)); intro z' h' t' k' F' N'; (try k_sweep)))) | walk1)) | (leave1; walk_say "STEP leave1"; try dsimp only) | fail "no step")
  rename Fr _ _ _ _ => F9
  rename News _ _ _ _ => N9
  rename _ = Data.cell (some (Value.int _ _)) => dw9
  rename _ = Data.cell (some (Value.ref nl)) => dn9
  exact hret _ _ _ _ _ _ _ _ _ _ _ _ _ _ dw9 dn9 F9 N9
end
-- G1
theorem five_of {BS : List Bal} {c wv : Int} {u : Nat → Tok} (h5 : BS.length = 5) (hB : ∀ i b, BS[i]? = some b → b.vs = lit c u (bitsOf wv i)) : ∃ a0 a1 a2 a3 a4 n0 n1 n2 n3 n4, BS = [⟨a0, lit c u (bitsOf wv 0), n0⟩, ⟨a1, lit c u (bitsOf wv 1), n1⟩, ⟨a2, lit c u (bitsOf wv 2), n2⟩, ⟨a3, lit c u (bitsOf wv 3), n3⟩, ⟨a4, lit c u (bitsOf wv 4), n4⟩] := by
  obtain ⟨BB0, BB1, BB2, BB3, BB4, rfl⟩ := five h5
  have e0 := hB 0 BB0 rfl
  have e1 := hB 1 BB1 rfl
  have e2 := hB 2 BB2 rfl
  have e3 := hB 3 BB3 rfl
  have e4 := hB 4 BB4 rfl
  obtain ⟨a0, v0, n0⟩ := BB0
  obtain ⟨a1, v1, n1⟩ := BB1
  obtain ⟨a2, v2, n2⟩ := BB2
  obtain ⟨a3, v3, n3⟩ := BB3
  obtain ⟨a4, v4, n4⟩ := BB4
  dsimp only at e0 e1 e2 e3 e4
  subst e0 e1 e2 e3 e4
  exact ⟨a0, a1, a2, a3, a4, n0, n1, n2, n3, n4, rfl⟩
theorem duel_all {BS : List Bal} {c wv : Int} {u : Nat → Tok} (h5 : BS.length = 5) (hB : ∀ i b, BS[i]? = some b → b.vs = lit c u (bitsOf wv i)) {i x : Nat} (hg : i < 4) (hx : x < 4)
    (h : 3 ≤ ([PB (bitsOf wv 0), PB (bitsOf wv 1), PB (bitsOf wv 2), PB (bitsOf wv 3), PB (bitsOf wv 4)].filter fun p => decide (p.idxOf i < p.idxOf x)).length) :
    (∀ b ∈ BS, BalOk (lnF c i) (lnF c x) b) ∧ 3 ≤ (BS.filter (duelR (lnF c i) (lnF c x))).length := by
  obtain ⟨a0, a1, a2, a3, a4, n0, n1, n2, n3, n4, rfl⟩ := five_of h5 hB
  exact duel_cnt c u hg hx h
theorem ints_map (c : Int) (u : Nat → Tok) : ∀ p : List Nat, IntsAre (p.map fun r => Value.int (lnF c r) (u r)) (p.map (lnF c))
  | [] => .nil
  | _ :: p => .cons _ _ (ints_map c u p)
theorem tb_ok (c : Int) (u : Nat → Tok) (b : Int) (a : Addr) (n : Nat) : TbOk ⟨a, (PB b).map (lnF c), lit c u b, n⟩ := by
  refine ⟨?_, fun n hn => ?_, ?_⟩
  · show IntsAre (lit c u b) _
    rw [lit_map]
    exact ints_map c u _
  · obtain ⟨r, _, rfl⟩ := List.mem_map.mp hn
    exact lnF_range c r
  · show ((PB b).map (lnF c)).length ≤ 4
    rw [List.length_map, (PB_is b).perm.1]
    exact Nat.le_refl _
theorem tbs_of {BS : List Bal} {c wv : Int} {u : Nat → Tok} (h5 : BS.length = 5) (hB : ∀ i b, BS[i]? = some b → b.vs = lit c u (bitsOf wv i)) : ∃ TS : List TB, TS.map tbRef = BS.map balRef ∧ TS.length = 5 ∧ (∀ t ∈ TS, TbOk t ∧ tbObj t ∈ BS.map balObj) ∧ TS.map TB.xs = [PB (bitsOf wv 0), PB (bitsOf wv 1), PB (bitsOf wv 2), PB (bitsOf wv 3), PB (bitsOf wv 4)].map fun p => p.map (lnF c) := by
  obtain ⟨a0, a1, a2, a3, a4, n0, n1, n2, n3, n4, rfl⟩ := five_of h5 hB
  refine ⟨[⟨a0, (PB (bitsOf wv 0)).map (lnF c), lit c u (bitsOf wv 0), n0⟩, ⟨a1, (PB (bitsOf wv 1)).map (lnF c), lit c u (bitsOf wv 1), n1⟩, ⟨a2, (PB (bitsOf wv 2)).map (lnF c), lit c u (bitsOf wv 2), n2⟩, ⟨a3, (PB (bitsOf wv 3)).map (lnF c), lit c u (bitsOf wv 3), n3⟩, ⟨a4, (PB (bitsOf wv 4)).map (lnF c), lit c u (bitsOf wv 4), n4⟩], rfl, rfl, ?_, rfl⟩
  intro t ht
  rcases List.mem_cons.mp ht with rfl | ht
  · exact ⟨tb_ok c u _ _ _, .head _⟩
  rcases List.mem_cons.mp ht with rfl | ht
  · exact ⟨tb_ok c u _ _ _, .tail _ (.head _)⟩
  rcases List.mem_cons.mp ht with rfl | ht
  · exact ⟨tb_ok c u _ _ _, .tail _ (.tail _ (.head _))⟩
  rcases List.mem_cons.mp ht with rfl | ht
  · exact ⟨tb_ok c u _ _ _, .tail _ (.tail _ (.tail _ (.head _)))⟩
  rcases List.mem_cons.mp ht with rfl | ht
  · exact ⟨tb_ok c u _ _ _, .tail _ (.tail _ (.tail _ (.tail _ (.head _))))⟩
  · cases ht
theorem txt_len (c wv : Int) : (bodyGo wv c ([PB (bitsOf wv 0), PB (bitsOf wv 1), PB (bitsOf wv 2), PB (bitsOf wv 3), PB (bitsOf wv 4)].map fun p => p.map (lnF c))).length ≤ 250 := by
  refine body_len wv _ c fun l hl => ?_
  obtain ⟨p, hp, rfl⟩ := List.mem_map.mp hl
  refine ⟨fun n hn => ?_, ?_⟩
  · obtain ⟨r, _, rfl⟩ := List.mem_map.mp hn
    exact lnF_range c r
  · have : IsP p := by
      simp only [List.mem_cons, List.not_mem_nil, or_false] at hp
      rcases hp with rfl | rfl | rfl | rfl | rfl <;> exact PB_is _
    rw [List.length_map, this.perm.1]
    exact Nat.le_refl _
theorem LxAt.above {w : World} {c : LxP} {no : Int} {pws : List (List Nat)} {r : List Nat} {l : List (Addr × Obj)} (hl : LxAt w c no pws r l) (ok : LxOk c) : ∀ q ∈ l, @LE.le Nat _ c.ce q.1 := by
  obtain ⟨tno, ps, pn, vs, sn, rfl, _, _⟩ := hl
  have ho := ok.ho
  intro q hq
  have h := List.mem_map_of_mem (f := Prod.fst) hq
  have e : (lexL w c no tno ps pn vs sn).map Prod.fst = [c.lx, c.dl, c.pb, c.fn, c.cc, c.st, c.ds, c.sg, c.ce] := rfl
  rw [e] at h
  simp only [List.mem_cons, List.not_mem_nil, or_false] at h
  rcases h with h | h | h | h | h | h | h | h | h <;> rw [h] <;> omega
/-- the lists that stand since statement 3: the ballots, their list, the numbers -/
structure Rst (L1 D : Addr) (ds : Array Value) (nl : Addr) (ns : Array Value) (nn : Nat) (BO R : List (Addr × Obj)) : Prop where
  hD : (D, listOf ds 5) ∈ R
  hB : ∀ q ∈ BO, q ∈ R
  hn : (nl, listOf ns nn) ∈ R
  ne : ∀ q ∈ R, (82 : Addr) ≠ q.1 ∧ q.1 ≠ L1 + 1 + 1 + 1 ∧ q.1 ≠ L1 + 1 + 1 + 1 + 1 ∧ q.1 ≠ L1 + 1 + 1 + 1 + 1 + 1
theorem tab_ne {h₀ h : Heap} {L l c : Addr} {news : List (Addr × Obj)} {xs ps : Array Value} {n : Nat} (N : News h₀ L h news) (hm : (l, listOf xs n) ∈ news) (hc : (c, tabObj ps) ∈ news) : l ≠ c := by
  rintro rfl
  have h3 := Option.some.inj ((N _ hm).1.symm.trans (N _ hc).1)
  have h4 := congrArg Obj.cls h3
  cases h4
theorem rst_of {g h : Heap} {L1 D nl : Addr} {ds ns : Array Value} {nn : Nat} {BO : List (Addr × Obj)} {ow on ok og ol : Obj} {vk vg vl : Option Value} (N : News g L1 h ((D, listOf ds 5) :: (BO ++ ((nl, listOf ns nn) :: (L1 + 1 + 1, on) :: (L1 + 1, ow) :: [(L1 + 1 + 1 + 1 + 1 + 1, ol), (L1 + 1 + 1 + 1 + 1, og), (L1 + 1 + 1 + 1, ok), (82, tabObj #[])])))) (hBO : ∀ q ∈ BO, ∃ xs n, q.2 = listOf xs n) (ck : ok.data = .cell vk) (cg : og.data = .cell vg) (cl : ol.data = .cell vl) :
    ∃ R, Rst L1 D ds nl ns nn BO R ∧ News g L1 h ((L1 + 1, ow) :: (L1 + 1 + 1, on) :: (L1 + 1 + 1 + 1 + 1 + 1, ol) :: (L1 + 1 + 1 + 1 + 1, og) :: (L1 + 1 + 1 + 1, ok) :: (82, tabObj #[]) :: R) := by
  refine ⟨(D, listOf ds 5) :: ((nl, listOf ns nn) :: BO), ⟨.head _, fun q hq => .tail _ (.tail _ hq), .tail _ (.head _), fun q hq => ?_⟩, News.sub N fun q hq => ?_⟩
  · have hl : ∃ xs n, q.2 = listOf xs n := by
      rcases List.mem_cons.mp hq with rfl | hq
      · exact ⟨_, _, rfl⟩
      rcases List.mem_cons.mp hq with rfl | hq
      · exact ⟨_, _, rfl⟩
      · exact hBO q hq
    obtain ⟨a, o⟩ := q
    obtain ⟨xs, n, e⟩ := hl
    dsimp only at e
    subst e
    have hm : (a, listOf xs n) ∈ ((D, listOf ds 5) :: (BO ++ ((nl, listOf ns nn) :: (L1 + 1 + 1, on) :: (L1 + 1, ow) :: [(L1 + 1 + 1 + 1 + 1 + 1, ol), (L1 + 1 + 1 + 1 + 1, og), (L1 + 1 + 1 + 1, ok), (82, tabObj #[])]))) := by
      rcases List.mem_cons.mp hq with e | hq
      · rw [e]; exact .head _
      rcases List.mem_cons.mp hq with e | hq
      · rw [e]; exact .tail _ (List.mem_append_right _ (.head _))
      · exact .tail _ (List.mem_append_left _ hq)
    exact ⟨(tab_ne N hm (.tail _ (List.mem_append_right _ (.tail _ (.tail _ (.tail _ (.tail _ (.tail _ (.tail _ (.head _)))))))))).symm, cell_ne N hm (.tail _ (List.mem_append_right _ (.tail _ (.tail _ (.tail _ (.tail _ (.tail _ (.head _)))))))) ck, cell_ne N hm (.tail _ (List.mem_append_right _ (.tail _ (.tail _ (.tail _ (.tail _ (.head _))))))) cg, cell_ne N hm (.tail _ (List.mem_append_right _ (.tail _ (.tail _ (.tail _ (.head _)))))) cl⟩
  · rcases List.mem_cons.mp hq with rfl | hq
    · exact .tail _ (List.mem_append_right _ (.tail _ (.tail _ (.head _))))
    rcases List.mem_cons.mp hq with rfl | hq
    · exact .tail _ (List.mem_append_right _ (.tail _ (.head _)))
    rcases List.mem_cons.mp hq with rfl | hq
    · exact .tail _ (List.mem_append_right _ (.tail _ (.tail _ (.tail _ (.head _)))))
    rcases List.mem_cons.mp hq with rfl | hq
    · exact .tail _ (List.mem_append_right _ (.tail _ (.tail _ (.tail _ (.tail _ (.head _))))))
    rcases List.mem_cons.mp hq with rfl | hq
    · exact .tail _ (List.mem_append_right _ (.tail _ (.tail _ (.tail _ (.tail _ (.tail _ (.head _)))))))
    rcases List.mem_cons.mp hq with rfl | hq
    · exact .tail _ (List.mem_append_right _ (.tail _ (.tail _ (.tail _ (.tail _ (.tail _ (.tail _ (.head _))))))))
    rcases List.mem_cons.mp hq with rfl | hq
    · exact .head _
    rcases List.mem_cons.mp hq with rfl | hq
    · exact .tail _ (List.mem_append_right _ (.head _))
    · exact .tail _ (List.mem_append_left _ hq)
set_option maxHeartbeats 8000000 in
theorem law_rest {w : World} {A₀ : Around} {base g : Heap} {L1 fa : Addr} {cd : Value} {mg mb : Str → Option Value} {s : Shared} {Q : Flow → Shared → Prop} {E : Value → Shared → Prop} {p : Program} {loose : List Str} {mean : ExcName → Option Value} {nm : Str} {sc : Scope} {S : List Stmt} {ra nl : Addr} {ow on ok og ol : Obj} {nn : Nat} {c wv : Int} {tc tw u0 u1 u2 u3 : Tok}
    (hP : lawOf = some (sc, S)) (B1 : Below A₀ base [] g)
    (F0 : Fr g L1 s.heap (fun y => if y = Str.ofString "ground" then some (.int c tc) else if y = Str.ofString "script" then some (.ref ra) else none)) (X1 : (Mine.KL w.params).In g)
    (N0 : News g L1 s.heap [(nl, listOf #[.int (ln0 c) u0, .int (ln1 c) u1, .int (ln2 c) u2, .int (ln3 c) u3] nn), (L1 + 1 + 1 + 1 + 1 + 1, ol), (L1 + 1 + 1 + 1 + 1, og), (L1 + 1 + 1 + 1, ok), (L1 + 1 + 1, on), (L1 + 1, ow), (82, tabObj #[])]) (T1 : Top p loose mean mg mb g) (l0 : @LT.lt Nat _ 82 L1) (C : CodeHd base 86 82) (dw : ow.data = .cell (some (.int wv tw))) (dn : on.data = .cell (some (.ref nl))) (ck : ok.data = .cell none) (cg : og.data = .cell none) (cl : ol.data = .cell none)
    (hret : ∀ ps m' h' tk', Fr g L1 h' m' → News g L1 h' [(82, tabObj ps)] → Q (.ret (.bool true)) { s with heap := h', toks := tk' }) :
    wpAny (model PySem.Challenge.rw_st0010_01.row.prog w) (callerA.deeper (envOfC nm sc L1 fa cd)) (execs (S.drop 3) (envOfC nm sc L1 fa cd)) Q E s := by
  obtain ⟨h0, g0, r9, k0, os0⟩ := s
  dsimp only at F0 N0 hret ⊢
  conv at hP => lhs; whnf
  injection hP with hP
  injection hP with hP1 hP2
  subst hP1 hP2
  dsimp only [List.drop]
  refine wpAny_execs_cons (ballots_stmt (led := [(L1 + 1 + 1 + 1 + 1 + 1, ol), (L1 + 1 + 1 + 1 + 1, og), (L1 + 1 + 1 + 1, ok), (82, tabObj #[])]) rfl B1 F0 X1 (News.sub N0 (mem_cons' (.head _) (mem_cons' (.tail _ (.tail _ (.tail _ (.tail _ (.head _))))) (mem_cons' (.tail _ (.tail _ (.tail _ (.tail _ (.tail _ (.head _)))))) (mem_cons' (.tail _ (.head _)) (mem_cons' (.tail _ (.tail _ (.head _))) (mem_cons' (.tail _ (.tail _ (.tail _ (.head _)))) (mem_cons' (.tail _ (.tail _ (.tail _ (.tail _ (.tail _ (.tail _ (.head _))))))) mem_nil')))))))) T1 dw dn (fun BS D m1 h1 tk1 hB5 hBO hb1 hm1 F1 N1w => ?_))
  clear F0 N0
  have hB : ∀ i b, BS[i]? = some b → b.vs = lit c (uF u0 u1 u2 u3) (bitsOf wv i) := fun i b h => (hBO i b h).trans (bal_vals _ c u0 u1 u2 u3)
  clear hBO
  obtain ⟨R, hR, N1⟩ := rst_of N1w (fun q hq => by
    obtain ⟨b, _, rfl⟩ := List.mem_map.mp hq
    exact ⟨_, _, rfl⟩) ck cg cl
  clear N1w
  obtain ⟨TS, tRef, t5, tOk, tXs⟩ := tbs_of hB5 hB
  refine wpAny_execs_cons (text_stmt (bn := 5) rfl B1 F1 X1 T1 N1 dw hb1 ((hm1 _ (by decide)).trans rfl) (TS := TS) (by rw [tRef]; exact (.tail _ (.tail _ (.tail _ (.tail _ (.tail _ hR.hD)))))) (fun b hb => ⟨(tOk b hb).1, (.tail _ (.tail _ (.tail _ (.tail _ (.tail _ (hR.hB _ (tOk b hb).2))))))⟩) (by omega) (fun tx m2 h2 tk2 htx hm2 F2 N2 => ?_))
  clear F1 N1 tRef tOk t5
  rw [tXs] at htx
  clear tXs TS
  obtain ⟨σ, G, hσ0, hσ4, hRd, hG4, hGn, hDu⟩ := plan c c wv (PB_is (bitsOf wv 0)) (PB_is (bitsOf wv 1)) (PB_is (bitsOf wv 2)) (PB_is (bitsOf wv 3)) (PB_is (bitsOf wv 4))
  have hlen := txt_len c wv
  generalize bodyGo wv c ([PB (bitsOf wv 0), PB (bitsOf wv 1), PB (bitsOf wv 2), PB (bitsOf wv 3), PB (bitsOf wv 4)].map fun p => p.map (lnF c)) = txt at htx hσ0 hlen
  refine wpAny_execs_cons (lex_stmt (led := (L1 + 1, ow) :: (L1 + 1 + 1, on) :: (L1 + 1 + 1 + 1 + 1 + 1, ol) :: (L1 + 1 + 1 + 1 + 1, og) :: (L1 + 1 + 1 + 1, ok) :: R) rfl B1 F2 X1 T1 (News.sub N2 fun q hq => ?_) htx (by omega) C (fun q hq => ?_) (fun cx l ps m3 h3 tk3 okc hl hlt hlx hm3 F3 N3 => ?_))
  · rcases List.mem_cons.mp hq with rfl | hq
    · exact (.tail _ (.tail _ (.tail _ (.tail _ (.tail _ (.head _))))))
    · exact (mem_cons' (.head _) (mem_cons' (.tail _ (.head _)) (mem_cons' (.tail _ (.tail _ (.head _))) (mem_cons' (.tail _ (.tail _ (.tail _ (.head _)))) (mem_cons' (.tail _ (.tail _ (.tail _ (.tail _ (.head _))))) (fun p hp => (.tail _ (.tail _ (.tail _ (.tail _ (.tail _ (.tail _ hp)))))))))))) q hq
  · rcases List.mem_cons.mp hq with rfl | hq
    · exact (show @Ne Nat (82) (L1 + 1) by omega)
    rcases List.mem_cons.mp hq with rfl | hq
    · exact (show @Ne Nat (82) (L1 + 1 + 1) by omega)
    rcases List.mem_cons.mp hq with rfl | hq
    · exact (show @Ne Nat (82) (L1 + 1 + 1 + 1 + 1 + 1) by omega)
    rcases List.mem_cons.mp hq with rfl | hq
    · exact (show @Ne Nat (82) (L1 + 1 + 1 + 1 + 1) by omega)
    rcases List.mem_cons.mp hq with rfl | hq
    · exact (show @Ne Nat (82) (L1 + 1 + 1 + 1) by omega)
    · exact (hR.ne q hq).1
  clear F2 N2
  have htx3 := (hm3 _ (by decide)).trans htx
  have hb3 := (hm3 _ (by decide)).trans ((hm2 _ (by decide)).trans hb1)
  clear hm1 hm2 hm3 htx hb1
  have hab := hl.above okc
  have lol : @LT.lt Nat _ (L1 + 1 + 1 + 1 + 1 + 1) cx.ce := hlt _ (.tail _ (.tail _ (.tail _ (.head _))))
  have hne : ∀ q ∈ l ++ ((82, tabObj ps) :: (L1 + 1, ow) :: (L1 + 1 + 1, on) :: (L1 + 1 + 1 + 1 + 1 + 1, ol) :: R), q.1 ≠ L1 + 1 + 1 + 1 + 1 ∧ q.1 ≠ L1 + 1 + 1 + 1 := fun q hq => by
    rcases List.mem_append.mp hq with hq | hq
    · have := hab q hq
      exact ⟨show @Ne Nat q.1 (L1 + 1 + 1 + 1 + 1) by omega, show @Ne Nat q.1 (L1 + 1 + 1 + 1) by omega⟩
    rcases List.mem_cons.mp hq with rfl | hq
    · exact ⟨(show @Ne Nat (82) (L1 + 1 + 1 + 1 + 1) by omega), (show @Ne Nat (82) (L1 + 1 + 1 + 1) by omega)⟩
    rcases List.mem_cons.mp hq with rfl | hq
    · exact ⟨(show @Ne Nat (L1 + 1) (L1 + 1 + 1 + 1 + 1) by omega), (show @Ne Nat (L1 + 1) (L1 + 1 + 1 + 1) by omega)⟩
    rcases List.mem_cons.mp hq with rfl | hq
    · exact ⟨(show @Ne Nat (L1 + 1 + 1) (L1 + 1 + 1 + 1 + 1) by omega), (show @Ne Nat (L1 + 1 + 1) (L1 + 1 + 1 + 1) by omega)⟩
    rcases List.mem_cons.mp hq with rfl | hq
    · exact ⟨(show @Ne Nat (L1 + 1 + 1 + 1 + 1 + 1) (L1 + 1 + 1 + 1 + 1) by omega), (show @Ne Nat (L1 + 1 + 1 + 1 + 1 + 1) (L1 + 1 + 1 + 1) by omega)⟩
    · exact ⟨(hR.ne q hq).2.2.1, (hR.ne q hq).2.1⟩
  refine wpAny_execs_cons (gone_stmt (vg := none) (led := (L1 + 1 + 1 + 1, ok) :: (l ++ ((82, tabObj ps) :: (L1 + 1, ow) :: (L1 + 1 + 1, on) :: (L1 + 1 + 1 + 1 + 1 + 1, ol) :: R))) rfl B1 F3 X1 (News.sub N3 fun q hq => ?_) T1 cg (fun q hq => ?_) (fun gl og1 h4 tk4 dg1 lgl F4 N4 => ?_))
  · rcases List.mem_cons.mp hq with rfl | hq
    · exact List.mem_append_right _ (.tail _ (.tail _ (.tail _ (.tail _ (.head _)))))
    rcases List.mem_cons.mp hq with rfl | hq
    · exact List.mem_append_right _ (.tail _ (.tail _ (.tail _ (.tail _ (.tail _ (.head _))))))
    rcases List.mem_append.mp hq with hq | hq
    · exact List.mem_append_left _ hq
    · exact List.mem_append_right _ ((mem_cons' (.head _) (mem_cons' (.tail _ (.head _)) (mem_cons' (.tail _ (.tail _ (.head _))) (mem_cons' (.tail _ (.tail _ (.tail _ (.head _)))) (fun p hp => (.tail _ (.tail _ (.tail _ (.tail _ (.tail _ (.tail _ hp))))))))))) q hq)
  · rcases List.mem_cons.mp hq with rfl | hq
    · exact (show @Ne Nat (L1 + 1 + 1 + 1) (L1 + 1 + 1 + 1 + 1) by omega)
    · exact (hne q hq).1
  clear F3 N3
  obtain ⟨o9, hpb⟩ := hl.pb
  have lpb : @LT.lt Nat _ cx.pb gl := lgl (cx.pb, o9) (.tail _ (.tail _ (List.mem_append_left _ hpb)))
  have lolg : @LT.lt Nat _ (L1 + 1 + 1 + 1 + 1 + 1) gl := lgl (L1 + 1 + 1 + 1 + 1 + 1, ol) (.tail _ (.tail _ (List.mem_append_right _ (.tail _ (.tail _ (.tail _ (.head _)))))))
  have log : @LT.lt Nat _ (L1 + 1 + 1 + 1 + 1) gl := lgl _ (.head _)
  have hof : Off cx ((L1 + 1 + 1 + 1, ok) :: (gl, listOf #[] 0) :: (L1 + 1 + 1 + 1 + 1, og1) :: (82, tabObj ps) :: (L1 + 1, ow) :: (L1 + 1 + 1, on) :: (L1 + 1 + 1 + 1 + 1 + 1, ol) :: R) := fun q hq => by
    rcases List.mem_cons.mp hq with rfl | hq
    · exact Off.below okc (hlt _ (.tail _ (.tail _ (.tail _ (.tail _ (.tail _ (.head _)))))))
    rcases List.mem_cons.mp hq with rfl | hq
    · exact Off.above okc lpb
    rcases List.mem_cons.mp hq with rfl | hq
    · exact Off.below okc (hlt (L1 + 1 + 1 + 1 + 1, og) (.tail _ (.tail _ (.tail _ (.tail _ (.head _))))))
    rcases List.mem_cons.mp hq with rfl | hq
    · exact Off.below okc (hlt (82, tabObj #[]) (.head _))
    · exact Off.below okc (hlt q ((mem_cons' (.tail _ (.head _)) (mem_cons' (.tail _ (.tail _ (.head _))) (mem_cons' (.tail _ (.tail _ (.tail _ (.head _)))) (fun p hp => (.tail _ (.tail _ (.tail _ (.tail _ (.tail _ (.tail _ hp)))))))))) q hq))
  refine wpAny_execs_cons (rounds (gl := gl) (l := l) (led := (82, tabObj ps) :: (L1 + 1, ow) :: (L1 + 1 + 1, on) :: (L1 + 1 + 1 + 1 + 1 + 1, ol) :: R) (σ := σ) (z := fun i => lnF c (G i)) (no := 1) (vk := none) rfl B1 F4 X1 T1 (News.sub N4 fun q hq => ?_) (by rw [hσ0]; exact hl) okc C hlx ck dg1 hof (fun q hq => ?_) (fun q hq => ?_) (by rw [hσ0]; exact Nat.zero_le _) (by rw [hσ0]; show txt.length ≤ 10000; omega) hRd (fun z0 z1 z2 z3 m5 gn5 vk5 ok5 l5 h5 tk5 dk5 hl5 ha5 hm5 F5 N5 => ?_))
  · rcases List.mem_cons.mp hq with rfl | hq
    · exact (.tail _ (.tail _ (.head _)))
    rcases List.mem_cons.mp hq with rfl | hq
    · exact .head _
    rcases List.mem_cons.mp hq with rfl | hq
    · exact (.tail _ (.head _))
    · exact (.tail _ (.tail _ (.tail _ hq)))
  · rcases List.mem_cons.mp hq with rfl | hq
    · exact Nat.ne_of_lt (lgl _ (.tail _ (.head _)))
    rcases List.mem_cons.mp hq with rfl | hq
    · exact Nat.ne_of_lt log
    · exact Nat.ne_of_lt (lgl q (.tail _ (.tail _ hq)))
  · rcases List.mem_cons.mp hq with rfl | hq
    · exact (show @Ne Nat (gl) (L1 + 1 + 1 + 1) by omega)
    rcases List.mem_cons.mp hq with rfl | hq
    · exact (show @Ne Nat (L1 + 1 + 1 + 1 + 1) (L1 + 1 + 1 + 1) by omega)
    · exact (hne q hq).2
  clear F4 N4 hl hab hne hof lgl hpb lpb hlt
  have hlx5 := (hm5 _ (by decide) (by decide) (by decide)).trans hlx
  have htx5 := (hm5 _ (by decide) (by decide) (by decide)).trans htx3
  have hb5 := (hm5 _ (by decide) (by decide) (by decide)).trans hb3
  clear hm5 hlx htx3 hb3
  refine wpAny_execs_cons (sort_stmt (t0 := z0) (t1 := z1) (t2 := z2) (t3 := z3) (u0 := u0) (u1 := u1) (u2 := u2) (u3 := u3) (gn := gn5) (gl := gl) (z := fun i => lnF c (G i)) (c := c) (nl := nl) (nn := nn) (on := on) (led := (L1 + 1 + 1 + 1, ok5) :: (l5 ++ ((82, tabObj ps) :: (L1 + 1, ow) :: (L1 + 1 + 1, on) :: (L1 + 1 + 1 + 1 + 1 + 1, ol) :: R))) rfl B1 F5 X1 (News.sub N5 fun q hq => ?_) T1 dg1 dn (perm_of c hG4 hGn) (fun h6 tk6 F6 N6 => ?_))
  · rcases List.mem_cons.mp hq with rfl | hq
    · exact (.tail _ (.head _))
    rcases List.mem_cons.mp hq with rfl | hq
    · exact (.tail _ (.tail _ (.head _)))
    rcases List.mem_cons.mp hq with rfl | hq
    · exact (.tail _ (.tail _ (.tail _ (List.mem_append_right _ (.tail _ (.tail _ (.tail _ (.tail _ hR.hn))))))))
    rcases List.mem_cons.mp hq with rfl | hq
    · exact (.tail _ (.tail _ (.tail _ (List.mem_append_right _ (.tail _ (.tail _ (.head _)))))))
    rcases List.mem_cons.mp hq with rfl | hq
    · exact .head _
    · exact (.tail _ (.tail _ (.tail _ hq)))
  clear F5 N5
  refine wpAny_execs_cons (duels (t0 := z0) (t1 := z1) (t2 := z2) (t3 := z3) (gn := gn5) (gl := gl) (FS := BS) (bn := 5) (z := fun i => lnF c (G i)) (bs := D) (vl := none) (led := l5 ++ ((82, tabObj ps) :: R)) rfl B1 F6 X1 T1 (News.sub N6 fun q hq => ?_) hb5 (fun x hx => List.mem_append_right _ (.tail _ (hR.hB _ (List.mem_map_of_mem hx)))) (by omega) dg1 (fun i j hj hij => (duel_all hB5 hB (hG4 i (by omega)) (hG4 j hj) (hDu i j hj hij)).1) dk5 cl (fun i j hj hij => (duel_all hB5 hB (hG4 i (by omega)) (hG4 j hj) (hDu i j hj hij)).2) (fun q hq => ?_) (fun ol7 vl7 ok7 vk7 h7 tk7 dl7 dk7 F7 N7 => ?_))
  · rcases List.mem_cons.mp hq with rfl | hq
    · exact (.tail _ (.tail _ (.tail _ (.tail _ (.tail _ (List.mem_append_right _ (.tail _ (.tail _ (.tail _ (.tail _ hR.hD))))))))))
    rcases List.mem_cons.mp hq with rfl | hq
    · exact .head _
    rcases List.mem_cons.mp hq with rfl | hq
    · exact (.tail _ (.tail _ (.tail _ (.tail _ (.tail _ (List.mem_append_right _ (.tail _ (.tail _ (.tail _ (.head _))))))))))
    rcases List.mem_cons.mp hq with rfl | hq
    · exact (.tail _ (.head _))
    rcases List.mem_cons.mp hq with rfl | hq
    · exact (.tail _ (.tail _ (.tail _ (.tail _ (.head _)))))
    rcases List.mem_append.mp hq with hq | hq
    · exact (.tail _ (.tail _ (.tail _ (.tail _ (.tail _ (List.mem_append_left _ hq))))))
    rcases List.mem_cons.mp hq with rfl | hq
    · exact (.tail _ (.tail _ (.tail _ (.tail _ (.tail _ (List.mem_append_right _ (.head _)))))))
    · exact (.tail _ (.tail _ (.tail _ (.tail _ (.tail _ (List.mem_append_right _ (.tail _ (.tail _ (.tail _ (.tail _ hq))))))))))
  · rcases List.mem_cons.mp hq with rfl | hq
    · exact ⟨(hR.ne _ hR.hD).2.2.2, (hR.ne _ hR.hD).2.1⟩
    rcases List.mem_cons.mp hq with rfl | hq
    · exact ⟨(show @Ne Nat gl (L1 + 1 + 1 + 1 + 1 + 1) by omega), (show @Ne Nat (gl) (L1 + 1 + 1 + 1) by omega)⟩
    rcases List.mem_cons.mp hq with rfl | hq
    · exact ⟨(show @Ne Nat (L1 + 1 + 1 + 1 + 1) (L1 + 1 + 1 + 1 + 1 + 1) by omega), (show @Ne Nat (L1 + 1 + 1 + 1 + 1) (L1 + 1 + 1 + 1) by omega)⟩
    rcases List.mem_append.mp hq with hq | hq
    · have := hl5.above okc q hq
      exact ⟨show @Ne Nat q.1 (L1 + 1 + 1 + 1 + 1 + 1) by omega, show @Ne Nat q.1 (L1 + 1 + 1 + 1) by omega⟩
    rcases List.mem_cons.mp hq with rfl | hq
    · exact ⟨(show @Ne Nat (82) (L1 + 1 + 1 + 1 + 1 + 1) by omega), (show @Ne Nat (82) (L1 + 1 + 1 + 1) by omega)⟩
    · exact ⟨(hR.ne q hq).2.2.2, (hR.ne q hq).2.1⟩
  clear F6 N6
  obtain ⟨tno9, ps9, pn9, vs9, sn9, rfl, _, _⟩ := hl5
  refine wpAny_execs_cons (ret_stmt (led := []) (c := cx) (txt := txt) rfl B1 F7 X1 T1 (News.sub N7 (mem_cons' (.tail _ (.tail _ (.tail _ (.tail _ (.tail _ (List.mem_append_left _ (.head _))))))) (mem_one (.tail _ (.tail _ (.tail _ (.tail _ (.tail _ (List.mem_append_left _ (.tail _ (.head _))))))))))) hlx5 htx5 (by rw [hσ0, hσ4]; show 1 + nls txt - 0 = _; omega) (by omega) (fun tk8 => ?_))
  exact hret _ _ _ _ F7 (News.sub N7 (mem_one (.tail _ (.tail _ (.tail _ (.tail _ (.tail _ (List.mem_append_right _ (.head _)))))))))
end Mine
end
section
namespace Mine
local macro_rules | `(tactic| k_head) => `(tactic| o_head (kmHook Mine.K [2, 3, 6, 15, 17, 18, 20, 21, 29, 31, 32, 34, 35, 36, 38, 39, 41, 42, 43, 45, 46, 48, 49, 50, 52, 53, 55, 56, 57, 58, 59, 60, 61, 64, 67, 69, 70, 72, 73, 74, 76, 77, 79, 80, 81, 83, 84, 86, 87, 88, 90, 91, 93, 94, 95, 97, 98, 100, 101, 102, 105, 106, 107, 109, 110, 112, 113, 114, 117, 118, 119, 122, 123] (fun _ => by kernel_rfl) [82]))
set_option maxHeartbeats 8000000 in
open_top hd for Mine.law
end Mine
end
set_option maxHeartbeats 8000000 in
theorem PySem.Challenge.cw_st0010_01_holds : PySem.Challenge.rw_st0010_01.Holds := by
  have h := @Mine.hd
  rw [Mine.law_eq] at h
  refine h (by
    change WalkO _ _ _ (kmHook Mine.KL _ _ _).says _ _ _ _
    k_go0
    (all_goals try k_fold)
    rename (Mine.KL _).In _ => X9
    rename Top _ _ _ _ _ _ => T9
    rename Below _ _ _ _ => B9
    rename Fr _ _ _ _ => F9
    rename News _ _ _ _ => N9
    rename IntsAre _ _ => I9
    rename CodeHd _ _ _ => C9
    rename Heap.IsList (ghostOf _ _) _ _ => L9
    refine Mine.law_head rfl B9 (Mine.frCast F9 ?fr) X9 N9 T9 L9 I9 (by omega) (by assumption) (by assumption) (by assumption) (fun nl nn c tc u0 u1 u2 u3 wv tw ow on h1 tk1 dw dn F1 N1 => ?_)
    case fr =>
      intro y
      by_cases e : y = Str.ofString "script"
      · subst e; rfl
      · rw [if_neg e]
        show bindL _ [(Str.ofString "script", _)] _ y = none
        simp only [bindL]
        first | rfl | (split <;> first | rfl | contradiction | simp_all)
    refine Mine.law_rest rfl B9 F1 X9 N1 T9 (by assumption) C9 dw dn (by assumption) (by assumption) (by assumption) (fun ps m' h' tk' F2 N2 => ?_)
    refine ⟨?_, GrownAt.of N2 (.head _), True.intro⟩
    dsimp only
    first | (k_end; wrow_close) | wrow_close | walk1
    done)
