import PyProof.Rows.All
import Wide.All
import OpenK.AllK
import Wide.FinOn
import PySem.Challenge.RW_sn0080_01
set_option Elab.async false
section
open PySem PySem.W PySem.Spec PySem.Calls PyProof.Rows
namespace Mine
set_option maxRecDepth 100000

/-! the written part: what stands behind the top's run, by places in the given text -/
def stm (i : Nat) : Stmt := PySem.Challenge.pw_sn0080_01.main.body.getD i default
def inCls (s : Stmt) (i : Nat) : Stmt := match s with
  | .ClassDef _ _ _ b _ _ _ _ _ _ _ => b.getD i default
  | _ => default
def dName (s : Stmt) : Str := match s with
  | .FunctionDef n _ _ _ _ _ _ _ _ _ => n
  | _ => default
noncomputable def dArgs (s : Stmt) : Arguments := match s with
  | .FunctionDef _ a _ _ _ _ _ _ _ _ => a
  | _ => default
noncomputable def dBody (s : Stmt) : List Stmt := match s with
  | .FunctionDef _ _ b _ _ _ _ _ _ _ => b
  | _ => []
noncomputable def dSub (s : Stmt) (i : Nat) : Stmt := (dBody s).getD i default
noncomputable def dScope (s : Stmt) : Scope := match s with
  | .FunctionDef _ _ _ _ _ _ sc _ _ _ => sc
  | _ => default
noncomputable def asgN (s : Stmt) : Str := match s with
  | .Assign (.Name n _ :: _) _ _ => n
  | _ => default
noncomputable def asgI (s : Stmt) : Int := match s with
  | .Assign _ (.Constant (.int i) _ _) _ => i
  | _ => 0
noncomputable def kstr (e : Option PySem.Expr) : Str := match e with
  | some (.Constant (.str x) _ _) => x
  | _ => default
noncomputable def nmOf (e : PySem.Expr) : Str := match e with
  | .Name n _ => n
  | _ => default
noncomputable def dKeys (s : Stmt) : List (Option PySem.Expr) := match s with
  | .Assign _ (.Dict ks _ _) _ => ks
  | _ => []
noncomputable def dVals (s : Stmt) : List PySem.Expr := match s with
  | .Assign _ (.Dict _ vs _) _ => vs
  | _ => []

noncomputable def fnO (s : Stmt) (qual pm : Str) (pt : Nat) (cd : Addr) (dV kV : Value) : Obj :=
  { cls := .type "function", data := .func (fnOf (dName s) qual (dArgs s) (dBody s) (dScope s) dV kV .none (.str pm pt) none (.ref cd) .none) }
noncomputable def cdO (nm qn : Str) (t : Nat) (line na ko : Int) (a : Addr) (v1 v2 : Value) (f : Addr) (x : Nat) : Obj :=
  { cls := .type "code", data := .fields #[.str nm t, .str qn (t + 1), .str "/claim/cut.py" (t + 2), .int line 0, .int na 0, .int 0 0, .int ko 0, .int 3 0, .ref a, .bool true, .int 181 0, .ref (a + 1), .none, v1, v2, .ref f, .int (x : Int) 0, .int line 0, .str "/claim/cut.py" (x + 1)] }
noncomputable def ent (P : Params) (x : Str) (t : Nat) (v : Value) : DictEntry := ⟨PyData.keyHash P x, .str x t, v⟩
noncomputable def tokN (i : Nat) : Str := asgN (stm (13 + i))
noncomputable def tokI (i : Nat) : Int := asgI (stm (13 + i))
noncomputable def tokEnts (P : Params) : List DictEntry := (List.range 49).map fun i => ent P (tokN i) (383 + 2 * i) (.int (tokI i) (382 + 2 * i))
noncomputable def tokVal (x : Str) : Value := ((List.range 49).find? fun i => tokN i == x).elim .none fun i => .int (tokI i) (382 + 2 * i)
noncomputable def ob3 (P : Params) : Obj := { cls := .type "dict", data := .dict ((([("__name__", 165, .str "law_sn0080_01" 584), ("__doc__", 166, .none), ("__package__", 167, .none), ("__loader__", 168, .builtin "__main__.__loader__#opaque"), ("__spec__", 169, .none), ("__annotations__", 170, .ref 6),
    ("__builtins__", 171, .ref 4), ("__file__", 173, .str "/claim/cut.py" 172), ("__cached__", 174, .none), (dName (stm 0), 193, .ref 21), (asgN (stm 2), 197, .int (asgI (stm 2)) 196), (dName (stm 3), 214, .ref 28), (dName (stm 4), 228, .ref 35), (dName (stm 5), 239, .ref 42), (dName (stm 6), 250, .ref 49),
    (dName (stm 7), 265, .ref 56), (dName (stm 9), 281, .ref 65), ("Whitespace", 379, .ref 127)] : List (Str × Nat × Value)).map fun p => ent P p.1 p.2.1 p.2.2) ++ tokEnts P ++
    (([(asgN (stm 62), 576, .ref 132), (dName (stm 63), 583, .ref 141), (dName (stm 65), 595, .ref 148), (dName (stm 66), 603, .ref 155), (dName (stm 67), 616, .ref 162), (dName (stm 68), 622, .ref 167), (dName (stm 69), 632, .ref 174), (dName (stm 70), 638, .ref 179), (dName (stm 71), 648, .ref 186),
    (dName (stm 72), 661, .ref 193), (dName (stm 73), 667, .ref 198), (dName (stm 74), 673, .ref 203)] : List (Str × Nat × Value)).map fun p => ent P p.1 p.2.1 p.2.2)).toArray 79 }
noncomputable def ob132 (P : Params) : Obj := { cls := .type "dict", data := .dict ((List.range 48).map fun j => ent P (kstr ((dKeys (stm 62)).getD j none)) (if j < 34 then 480 + 2 * j else 514 + j) (tokVal (nmOf ((dVals (stm 62)).getD j default)))).toArray 48 }
noncomputable def ob126 (P : Params) : Obj := { cls := .type "dict", data := .dict ((([("__module__", 291, .str "cpy313.tabnanny" 282), ("__firstlineno__", 295, .int 90 294), ("S", 299, .str " " 297), ("T", 300, .str "\t" 298), ("__init__", 315, .ref 82), ("longest_run_of_spaces", 322, .ref 89), ("indent_level", 334, .ref 96),
    ("equal", 342, .ref 103), ("not_equal_witness", 350, .ref 110), ("less", 358, .ref 117), ("not_less_witness", 366, .ref 124), ("__static_attributes__", 372, .ref 125), ("__dict__", 374, .ref 128), ("__weakref__", 376, .ref 129), ("__doc__", 377, .none)] : List (Str × Nat × Value)).map fun p => ent P p.1 p.2.1 p.2.2)).toArray 4 }
noncomputable def ob127 : Obj := { cls := .type "type", data := .cls { name := "Whitespace", bases := [.type "object"], mro := [.ref 127, .type "object"], ns := 126, qualname := "Whitespace" }, slots := #[none, none, some (.str "Whitespace" 284), some (.str "Whitespace" 292), some (.builtin "object.__new__"), some (.bool true)] }
noncomputable def lawM : Str := "law_sn0080_01"
noncomputable def K0 (P : Params) : Frag :=
  (nat_lit 2, { cls := .none, data := .dict #[] }) ::
  (nat_lit 3, ob3 P) ::
  (nat_lit 27, cdO (dName (stm 3)) (dName (stm 3)) 198 6 3 0 22 (.ref 24) (.ref 25) 26 212) ::
  (nat_lit 28, fnO (stm 3) (dName (stm 3)) "cpy313._pylong" 194 27 .none .none) ::
  (nat_lit 41, cdO (dName (stm 5)) (dName (stm 5)) 229 32 2 0 36 (.ref 38) (.ref 39) 40 237) ::
  (nat_lit 42, fnO (stm 5) (dName (stm 5)) "cpy313._pylong" 194 41 .none .none) ::
  (nat_lit 48, cdO (dName (stm 6)) (dName (stm 6)) 240 48 2 0 43 (.ref 45) (.ref 46) 47 248) ::
  (nat_lit 49, fnO (stm 6) (dName (stm 6)) "cpy313._pylong" 194 48 .none .none) ::
  (nat_lit 55, cdO (dName (stm 7)) (dName (stm 7)) 251 57 2 0 50 (.ref 52) (.ref 53) 54 263) ::
  (nat_lit 56, fnO (stm 7) (dName (stm 7)) "cpy313._pylong" 194 55 .none .none) ::
  (nat_lit 57, { cls := .type "tuple", data := .seq #[.int 0 268, .none] }) ::
  (nat_lit 58, { cls := .type "dict", data := .dict #[ent P "key" 269 .none] 1 }) ::
  (nat_lit 64, cdO (dName (stm 9)) (dName (stm 9)) 270 69 4 1 59 (.ref 61) (.ref 62) 63 279) ::
  (nat_lit 65, fnO (stm 9) (dName (stm 9)) "cpy313.bisect" 266 64 (.ref 57) (.ref 58)) ::
  (nat_lit 81, cdO "__init__" "Whitespace.__init__" 301 93 2 0 76 (.ref 78) (.ref 79) 80 313) ::
  (nat_lit 82, fnO (inCls (stm 11) 1) "Whitespace.__init__" "cpy313.tabnanny" 282 81 .none .none) ::
  (nat_lit 95, cdO "indent_level" "Whitespace.indent_level" 323 119 2 0 90 (.ref 92) (.ref 93) 94 332) ::
  (nat_lit 96, fnO (inCls (stm 11) 3) "Whitespace.indent_level" "cpy313.tabnanny" 282 95 .none .none) ::
  (nat_lit 126, ob126 P) ::
  (nat_lit 127, ob127) ::
  (nat_lit 128, { cls := .type "getset_descriptor", data := .fields #[.str "__dict__" 373, .ref 127, .builtin "function.__dict__", .builtin "function.__dict__#set"] }) ::
  (nat_lit 129, { cls := .type "getset_descriptor", data := .fields #[.str "__weakref__" 375, .ref 127, .builtin "ExceptionGroup.__weakref__", .none] }) ::
  (nat_lit 132, ob132 P) ::
  (nat_lit 140, cdO (dName (stm 63)) (dName (stm 63)) 577 188 1 0 135 (.ref 137) (.ref 138) 139 581) ::
  (nat_lit 141, fnO (stm 63) (dName (stm 63)) "cpy313.token" 380 140 .none .none) ::
  (nat_lit 147, cdO (dName (stm 65)) (dName (stm 65)) 586 191 1 0 142 (.ref 144) (.ref 145) 146 593) ::
  (nat_lit 148, fnO (stm 65) (dName (stm 65)) lawM 584 147 .none .none) ::
  (nat_lit 154, cdO (dName (stm 66)) (dName (stm 66)) 596 196 1 0 149 (.ref 151) (.ref 152) 153 601) ::
  (nat_lit 155, fnO (stm 66) (dName (stm 66)) lawM 584 154 .none .none) ::
  (nat_lit 161, cdO (dName (stm 67)) (dName (stm 67)) 604 199 3 0 156 (.ref 158) (.ref 159) 160 614) ::
  (nat_lit 162, fnO (stm 67) (dName (stm 67)) lawM 584 161 .none .none) ::
  (nat_lit 166, cdO (dName (stm 68)) (dName (stm 68)) 617 206 2 0 163 .none .none 165 620) ::
  (nat_lit 167, fnO (stm 68) (dName (stm 68)) lawM 584 166 .none .none) ::
  (nat_lit 173, cdO (dName (stm 69)) (dName (stm 69)) 623 211 1 0 168 (.ref 170) (.ref 171) 172 630) ::
  (nat_lit 174, fnO (stm 69) (dName (stm 69)) lawM 584 173 .none .none) ::
  (nat_lit 178, cdO (dName (stm 70)) (dName (stm 70)) 633 218 1 0 175 .none .none 177 636) ::
  (nat_lit 179, fnO (stm 70) (dName (stm 70)) lawM 584 178 .none .none) ::
  (nat_lit 185, cdO (dName (stm 71)) (dName (stm 71)) 639 221 2 0 180 (.ref 182) (.ref 183) 184 646) ::
  (nat_lit 186, fnO (stm 71) (dName (stm 71)) lawM 584 185 .none .none) ::
  (nat_lit 192, cdO (dName (stm 72)) (dName (stm 72)) 649 226 2 0 187 (.ref 189) (.ref 190) 191 659) ::
  (nat_lit 193, fnO (stm 72) (dName (stm 72)) lawM 584 192 .none .none) ::
  (nat_lit 197, cdO (dName (stm 73)) (dName (stm 73)) 662 239 2 0 194 .none .none 196 665) ::
  (nat_lit 198, fnO (stm 73) (dName (stm 73)) lawM 584 197 .none .none) ::
  (nat_lit 202, cdO (dName (stm 74)) (dName (stm 74)) 668 242 1 0 199 .none .none 201 671) ::
  (nat_lit 203, fnO (stm 74) (dName (stm 74)) lawM 584 202 .none .none) :: []
end Mine
end
section
open PySem PySem.W PySem.W.X PyProof.Rows
set_option maxRecDepth 100000
namespace Mine
noncomputable abbrev pwx : Program := PySem.Challenge.pw_sn0080_01
noncomputable def vw : Program := { pwx with main := { pwx.main with body := [stm 74] } }
noncomputable abbrev hkk := kmHook Mine.K0 [2, 3, 27, 28, 41, 42, 48, 49, 55, 56, 57, 58, 64, 65, 81, 82, 95, 96, 126, 127, 128, 129, 132, 140, 141, 147, 148, 154, 155, 161, 162, 166, 167, 173, 174, 178, 179, 185, 186, 192, 193, 197, 198, 202, 203] (fun _ => by kernel_rfl) [44, 37]
def lse : List PySem.Str := [Str.ofString "_wall", Str.ofString "_DIV_LIMIT", Str.ofString "_div2n1n", Str.ofString "_div3n2n", Str.ofString "_int2digits", Str.ofString "_digits2int", Str.ofString "_divmod_pos", Str.ofString "bisect_left", Str.ofString "Whitespace", Str.ofString "ENDMARKER", Str.ofString "LPAR", Str.ofString "RPAR", Str.ofString "LSQB", Str.ofString "RSQB", Str.ofString "COLON", Str.ofString "COMMA", Str.ofString "SEMI", Str.ofString "PLUS", Str.ofString "MINUS", Str.ofString "STAR", Str.ofString "SLASH", Str.ofString "VBAR", Str.ofString "AMPER", Str.ofString "LESS", Str.ofString "GREATER", Str.ofString "EQUAL", Str.ofString "DOT", Str.ofString "PERCENT", Str.ofString "LBRACE", Str.ofString "RBRACE", Str.ofString "EQEQUAL", Str.ofString "NOTEQUAL", Str.ofString "LESSEQUAL", Str.ofString "GREATEREQUAL", Str.ofString "TILDE", Str.ofString "CIRCUMFLEX", Str.ofString "LEFTSHIFT", Str.ofString "RIGHTSHIFT", Str.ofString "DOUBLESTAR", Str.ofString "PLUSEQUAL", Str.ofString "MINEQUAL", Str.ofString "STAREQUAL", Str.ofString "SLASHEQUAL", Str.ofString "PERCENTEQUAL", Str.ofString "AMPEREQUAL", Str.ofString "VBAREQUAL", Str.ofString "CIRCUMFLEXEQUAL", Str.ofString "LEFTSHIFTEQUAL", Str.ofString "RIGHTSHIFTEQUAL", Str.ofString "DOUBLESTAREQUAL", Str.ofString "DOUBLESLASH", Str.ofString "DOUBLESLASHEQUAL", Str.ofString "AT", Str.ofString "ATEQUAL", Str.ofString "RARROW", Str.ofString "ELLIPSIS", Str.ofString "COLONEQUAL", Str.ofString "EXCLAMATION", Str.ofString "EXACT_TOKEN_TYPES", Str.ofString "ISEOF", Str.ofString "_law_totals", Str.ofString "_law_content", Str.ofString "_law_kinds", Str.ofString "_law_words", Str.ofString "_law_major", Str.ofString "_law_majors", Str.ofString "_law_product", Str.ofString "_law_rings", Str.ofString "_law_divisor"]

namespace Hd
abbrev lw := PySem.Challenge.rw_sn0080_01
theorem and_of {a b : Bool} (x : a = true) (y : b = true) : (a && b) = true := by subst x y; rfl
theorem ws1 : namesResolve lw.row.prog = true := by kernel_rfl
theorem ws2 : noRoadLSs { strict := !(importedModules lw.row.prog.main.body).all cThrough.contains, foot := none, bare := (["vars", "dir", "locals"] : List Str).filter (readsOut lw.row.prog lw.row.prog.main.body) } lw.row.prog.main.body = true := by kernel_rfl
theorem ws3 : (namesMeet lw.row.prog lw.row.prog.main.body fun _ n => attrL n) = true := by kernel_rfl
theorem ws4 : noRoadLSs { strict := true, foot := some lw.bound', writes := lw.writes, may := lw.may } lw.footing = true := by kernel_rfl
theorem ws5 : (lw.bound'.all fun n => !builtinNamed n || lw.about == [n] || !lw.reads n) = true := by kernel_rfl
end Hd
open Hd in
theorem wsaid : PySem.W.OpenLaw.wellSaid PySem.Challenge.rw_sn0080_01 = true := by
  delta OpenLaw.wellSaid
  repeat' with_reducible refine and_of ?_ ?_
  all_goals (try (delta OpenRow.wellSaid))
  all_goals (repeat' with_reducible refine and_of ?_ ?_)
  all_goals (try (delta OpenRow.partSaid))
  all_goals (repeat' with_reducible refine and_of ?_ ?_)
  all_goals (try (delta looksOpen))
  all_goals (repeat' with_reducible refine and_of ?_ ?_)
  all_goals (first | with_reducible exact ws1 | with_reducible exact ws2 | with_reducible exact ws3 | with_reducible exact ws4 | with_reducible exact ws5 | kernel_rfl)
noncomputable abbrev tst : Shared → Bool := fun s => xlAt vw [] s && recOk (RowW.records (OpenRow.toRowW PySem.Challenge.rw_sn0080_01.row)) s
noncomputable abbrev look (s : Shared) := (openSeen vw lse (importedModules pwx.main.body) tst true s, Hook.obs hkk s)
namespace Hd
noncomputable def tupO (t : Nat) (vs : List Str) : Obj := { cls := .type "tuple", data := .seq ((vs.zipIdx t).map fun p => .str p.1 p.2).toArray }
noncomputable def tabE : Obj := { cls := .none, data := .fields #[] }
noncomputable def dfO (s : Stmt) (qn pm : Str) (pt : Nat) (line na ko : Int) (a t : Nat) (vs cs : List Str) (dV kV : Value) : List Obj :=
  [tupO 0 [], tabE, tupO (t + 3) vs, tupO (t + 3 + vs.length) cs,
   { cls := .none, data := .func { name := dName s, qualname := qn, params := dArgs s, body := .stmts (dBody s), scope := dScope s, globals := 0, closure := [], defaults := .none, kwdefaults := .none } },
   cdO (dName s) qn t line na ko a (.ref (a + 2)) (.ref (a + 3)) (a + 4) (t + 3 + vs.length + cs.length), fnO s qn pm pt (a + 5) dV kV]
noncomputable def glE (P : Params) (nm : Value) : List DictEntry := (([("__name__", 165, nm), ("__doc__", 166, .none), ("__package__", 167, .none), ("__loader__", 168, .builtin "__main__.__loader__#opaque"), ("__spec__", 169, .none), ("__annotations__", 170, .ref 6),
    ("__builtins__", 171, .ref 4), ("__file__", 173, .str "/claim/cut.py" 172), ("__cached__", 174, .none)] : List (Str × Nat × Value)).map fun p => ent P p.1 p.2.1 p.2.2)
noncomputable def glA (P : Params) : List DictEntry := (([(dName (stm 0), 193, .ref 21), (asgN (stm 2), 197, .int (asgI (stm 2)) 196), (dName (stm 3), 214, .ref 28), (dName (stm 4), 228, .ref 35), (dName (stm 5), 239, .ref 42), (dName (stm 6), 250, .ref 49),
    (dName (stm 7), 265, .ref 56), (dName (stm 9), 281, .ref 65)] : List (Str × Nat × Value)).map fun p => ent P p.1 p.2.1 p.2.2)
noncomputable def glB (P : Params) : List DictEntry := [ent P "Whitespace" 379 (.ref 127)]
noncomputable def glD (P : Params) : List DictEntry := [ent P (asgN (stm 62)) 576 (.ref 132)]
noncomputable def glO (es : List DictEntry) : Obj := { cls := .type "dict", data := .dict es.toArray es.length }
noncomputable def tabO (ls : List (Int × Int × Nat)) : Obj := { cls := .none, data := .fields (ls.flatMap fun p => [.int p.1 0, .int p.2.1 0, .ref p.2.2]).toArray }
noncomputable def modN : Value := .str "cpy313.tabnanny" 282
noncomputable def tabA : List (Int × Int × Nat) := [(1, 0, 20), (6, 0, 27), (22, 0, 34), (32, 0, 41), (48, 0, 48), (57, 0, 55), (69, 0, 64)]
noncomputable def hd15 (P : Params) (g t : Obj) : List Obj := [boot_o_0 P, boot_o_1 P, boot_o_2 P, g, boot_o_4 P, boot_o_5 P, boot_o_6 P, boot_o_7 P, boot_o_8 P, boot_o_9 P, boot_o_10 P, tupO 0 [], t,
  { cls := .type "code", data := .fields #[.str "<module>" 182, .str "<module>" 183, .str "/claim/cut.py" 184, .int 1 0, .int 0 0, .int 0 0, .int 0 0, .int 0 0, .ref 11, .bool false, .int 181 0, .ref 12, .none, .none, .none, .none, .int 185 0, .int 1 0, .str "/claim/cut.py" 186] },
  { cls := .type "frame", slots := #[some (.ref 13), some (.ref 3), some (.ref 3), none, some (.str "__main__" 164), none, some (.ref 0)] }]
noncomputable def obA (P : Params) : List Obj := dfO (stm 0) "_wall" "__main__" 164 1 1 0 15 187 ["k"] [] .none .none ++ (dfO (stm 3) "_div2n1n" "cpy313._pylong" 194 6 3 0 22 198 ["a", "b", "n", "pad", "half_n", "mask", "b1", "b2", "q1", "r", "q2"] [] .none .none ++ (dfO (stm 4) "_div3n2n" "cpy313._pylong" 194 22 6 0 29 215 ["a12", "a3", "b", "b1", "b2", "n", "q", "r"] [] .none .none ++ (dfO (stm 5) "_int2digits" "cpy313._pylong" 194 32 2 0 36 229 ["a", "n"] ["n", "a_digits", "inner"] .none .none ++ (dfO (stm 6) "_digits2int" "cpy313._pylong" 194 48 2 0 43 240 ["digits", "n"] ["digits", "n", "inner"] .none .none ++ (dfO (stm 7) "_divmod_pos" "cpy313._pylong" 194 57 2 0 50 251 ["a", "b", "n", "a_digits", "r", "q_digits", "a_digit", "q_digit", "q"] [] .none .none ++ ([{ cls := .type "tuple", data := .seq #[.int 0 268, .none] }, { cls := .type "dict", data := .dict #[ent P "key" 269 .none] 1 }] ++ dfO (stm 9) "bisect_left" "cpy313.bisect" 266 69 4 1 59 270 ["a", "x", "lo", "hi", "key", "mid"] [] (.ref 57) (.ref 58)))))))
noncomputable def cEn : List (Str × Nat × Value) := [("__firstlineno__", 295, .int 90 294), ("S", 299, .str " " 297), ("T", 300, .str "\t" 298), ("__init__", 315, .ref 82), ("longest_run_of_spaces", 322, .ref 89), ("indent_level", 334, .ref 96),
    ("equal", 342, .ref 103), ("not_equal_witness", 350, .ref 110), ("less", 358, .ref 117), ("not_less_witness", 366, .ref 124), ("__static_attributes__", 372, .ref 125)]
noncomputable def ob68 (P : Params) : Obj := glO ((([("__module__", 291, modN), ("__qualname__", 293, .str "Whitespace" 292)] : List (Str × Nat × Value)) ++ cEn).map fun p => ent P p.1 p.2.1 p.2.2)
noncomputable def obB (P : Params) : List Obj := [tupO 0 [], { cls := .type "builtin_function_or_method", data := .fields #[.builtin "type.__prepare__", .type "type"] }, ob68 P, tupO 0 [],
  tabO [(93, 4, 81), (116, 4, 88), (119, 4, 95), (126, 4, 102), (129, 4, 109), (132, 4, 116), (135, 4, 123)],
  { cls := .type "code", data := .fields #[.str "Whitespace" 286, .str "Whitespace" 287, .str "/claim/cut.py" 288, .int 90 0, .int 0 0, .int 0 0, .int 0 0, .int 0 0, .ref 69, .bool false, .int 181 0, .ref 70, .none, .none, .none, .none, .int 289 0, .int 90 0, .str "/claim/cut.py" 290] },
  { cls := .type "frame", slots := #[some (.ref 71), some (.ref 3), some (.ref 68), none, some modN, none, some (.ref 0)] },
  { cls := .type "str_ascii_iterator", data := .fields #[.none, .int 2 0] }, tupO 0 [], { cls := .type "StopIteration", data := .fields #[.ref 74, .none, .none, .none, .bool false, .none] }] ++
  (dfO (inCls (stm 11) 1) "Whitespace.__init__" "cpy313.tabnanny" 282 93 2 0 76 301 ["self", "ws", "S", "T", "count", "b", "n", "nt", "ch"] [] .none .none ++ (dfO (inCls (stm 11) 2) "Whitespace.longest_run_of_spaces" "cpy313.tabnanny" 282 116 1 0 83 316 ["self"] [] .none .none ++ (dfO (inCls (stm 11) 3) "Whitespace.indent_level" "cpy313.tabnanny" 282 119 2 0 90 323 ["self", "tabsize", "count", "trailing", "il", "i"] [] .none .none ++ (dfO (inCls (stm 11) 4) "Whitespace.equal" "cpy313.tabnanny" 282 126 2 0 97 335 ["self", "other"] [] .none .none ++ (dfO (inCls (stm 11) 5) "Whitespace.not_equal_witness" "cpy313.tabnanny" 282 129 2 0 104 343 ["self", "other"] [] .none .none ++ (dfO (inCls (stm 11) 6) "Whitespace.less" "cpy313.tabnanny" 282 132 2 0 111 351 ["self", "other"] [] .none .none ++ (dfO (inCls (stm 11) 7) "Whitespace.not_less_witness" "cpy313.tabnanny" 282 135 2 0 118 359 ["self", "other"] [] .none .none ++
  ([tupO 367 ["is_simple", "n", "norm", "nt", "raw"], ob126 P, ob127, { cls := .type "getset_descriptor", data := .fields #[.str "__dict__" 373, .ref 127, .builtin "function.__dict__", .builtin "function.__dict__#set"] },
    { cls := .type "getset_descriptor", data := .fields #[.str "__weakref__" 375, .ref 127, .builtin "ExceptionGroup.__weakref__", .none] }, { cls := .type "super", data := .fields #[.ref 127, .ref 127, .ref 127] },
    { cls := .type "builtin_function_or_method", data := .fields #[.builtin "object.__init_subclass__", .ref 127] }]))))))))
noncomputable def hpOf (l : List Obj) : Heap := Heap.mk (Array.mk l) {}
noncomputable def hp0 (P : Params) : Heap := hpOf (hd15 P (boot_o_3 P) (tabO []))
noncomputable def hpA (P : Params) : Heap := hpOf (hd15 P (glO (glE P modN ++ glA P)) (tabO tabA) ++ obA P)
noncomputable def hpB (P : Params) : Heap := hpOf (hd15 P (glO (glE P modN ++ (glA P ++ glB P))) (tabO (tabA ++ [(90, 0, 71)])) ++ (obA P ++ obB P))
noncomputable def nmT : Value := .str "cpy313.token" 380
noncomputable def hpC (P : Params) : Heap := hpOf (hd15 P (glO (glE P nmT ++ (glA P ++ (glB P ++ tokEnts P)))) (tabO (tabA ++ [(90, 0, 71)])) ++ (obA P ++ obB P))
noncomputable def dEn (P : Params) (a n : Nat) : Obj := { cls := .type "dict", data := .dict ((List.range n).map fun i => let j := a + i; ent P (kstr ((dKeys (stm 62)).getD j none)) (if j < 34 then 480 + 2 * j else 514 + j) (tokVal (nmOf ((dVals (stm 62)).getD j default)))).toArray n }
noncomputable def hpD (P : Params) : Heap := hpOf (hd15 P (glO (glE P nmT ++ (glA P ++ (glB P ++ (tokEnts P ++ glD P))))) (tabO (tabA ++ [(90, 0, 71)])) ++ (obA P ++ (obB P ++ [ob132 P, dEn P 17 17, dEn P 34 14])))
noncomputable def shOf (h : Params → Heap) (w : World) (k : Nat) (os : OsState) : Shared := ⟨h w.params, Array.mk [], boot_drawn, k, os⟩
noncomputable abbrev env0 : Env := { scope := pwx.main.scope, locals := mainNs, globals := mainNs, cells := [], code := .ref 13, frame := some 14 }
noncomputable abbrev bdy : List Stmt := behindTheImports pwx
noncomputable abbrev cE : Code := .body bdy env0
abbrev ps (a b c d : Nat) : Pos := { line := a, col := b, endLine := c, endCol := d }
end Hd
end Mine
end
section
open PySem PySem.W PySem.W.X PyProof.Rows
set_option maxRecDepth 100000
namespace Mine
namespace Hd
theorem left_of {p q : Program} {loose : List Str} {Xt : Shared → Bool} {α : Type} {Yf : Shared → α} {Ya : World → α} {N : Nat} {g0 : Bool} {H : Params → Heap} {gs : Array GenState} {d : Drawn} {k m : Nat} {an : Option Value} {M : Nat}
    (op : ∀ w : World, (fencedOpening treeTable p w N).map (fun s => (s.heap, s.gens, s.drawn, s.toks)) = some (H w.params, gs, d, k))
    (sz : ∀ w : World, ((H w.params).isNs mainGlobals && gs.size == 0, (H w.params).objs.size, (H w.params).nsMap mainGlobals "__annotations__") = (true, m, an))
    (go : ∀ (w : World) (os : OsState), ∃ r, topRun treeTable p w m an M ⟨H w.params, gs, d, k, os⟩ (topStub p) = some r ∧
      ((staticsOk (importedModules p.main.body) (H w.params) r.heap && namesBound p r.heap && gensDone r && laidKept (H w.params) r.heap), (openSeen q loose (importedModules p.main.body) Xt g0 r, Yf r)) = (true, (openGood q loose, Ya w)))
    (le : Nat.ble M N = true) : LeftO p q loose Xt Yf Ya N g0 := by
  intro w
  cases hs : fencedOpening treeTable p w N with
  | none => have := op w; rw [hs] at this; cases this
  | some s =>
    have e := op w
    rw [hs] at e
    obtain ⟨h, g, dd, t, os⟩ := s
    injection e with e
    injection e with e1 e
    injection e with e2 e
    injection e with e3 e4
    dsimp only at e1 e2 e3 e4
    subst e1 e2 e3 e4
    obtain ⟨r, a, b⟩ := go w os
    injection b with b1 b2
    have c := topRun_mono (N - M) _ _ _ _ a
    rw [Nat.add_sub_of_le (Nat.le_of_ble_eq_true le)] at c
    have z := sz w
    injection z with z1 z
    injection z with z2 z3
    have f : topFrom treeTable p w N ⟨H w.params, g, dd, t, os⟩ = some r := by
      simp only [topFrom, z1, z2, z3, c, Option.bind_some, b1]
    simp only [openEnds, hs, Option.bind_some, f, Option.map_some, b2]
theorem on_rest {b : List Stmt} {w : World} {an : Option Value} {m n N i j : Nat} {s s' r : Shared} {en : Env} {c : Code} {q x y : Pos} {p : Program} (h : segRun treeTable p w m an 1 n s (piecesOf ((b.drop i).take j) en c x [topFrame q]) = some (.next, s', c, y))
    (k : topRun treeTable p w m an N s' (restOf (b.drop (i + j)) en c y [topFrame q]) = some r) : topRun treeTable p w m an (n + N) s (restOf (b.drop i) en c x [topFrame q]) = some r := by
  have := piece_app h k
  rwa [← List.drop_drop, List.take_append_drop] at this
theorem segP (w : World) (os : OsState) : topGo treeTable pwx w 11 (some (.ref 6)) 12 (shOf boot_heap w boot_toks os) (topStub pwx) = some (shOf hp0 w 187 os, ⟨denote treeTable cE, cE, ps 0 0 0 0, [topFrame (ps 0 0 0 0)]⟩) := by kernel_rfl
theorem segQ (w : World) (os : OsState) : segRun treeTable pwx w 11 (some (.ref 6)) 1 1 (shOf hp0 w 187 os) (blockOf bdy env0 cE (ps 0 0 0 0) [topFrame (ps 0 0 0 0)]) = some (.next, shOf hp0 w 187 os, cE, ps 0 0 0 0) := by kernel_rfl
set_option maxHeartbeats 0 in
theorem segA (w : World) (os : OsState) : segRun treeTable pwx w 11 (some (.ref 6)) 1 285 (shOf hp0 w 187 os) (piecesOf ((bdy.drop 0).take 11) env0 cE (ps 0 0 0 0) [topFrame (ps 0 0 0 0)]) = some (.next, shOf hpA w 284 os, cE, ps 89 0 89 8) := by kernel_rfl
set_option maxHeartbeats 0 in
theorem segBf (w : World) (os : OsState) : segRun treeTable pwx (w.withFollow "special-get-raises" false) 11 (some (.ref 6)) 1 489 (shOf hpA (w.withFollow "special-get-raises" false) 284 os) (piecesOf ((bdy.drop 11).take 1) env0 cE (ps 89 0 89 8) [topFrame (ps 0 0 0 0)]) = some (.next, shOf hpB (w.withFollow "special-get-raises" false) 380 os, cE, ps 90 0 136 16) := by kernel_rfl
set_option maxHeartbeats 0 in
theorem segBt (w : World) (os : OsState) : segRun treeTable pwx (w.withFollow "special-get-raises" true) 11 (some (.ref 6)) 1 489 (shOf hpA (w.withFollow "special-get-raises" true) 284 os) (piecesOf ((bdy.drop 11).take 1) env0 cE (ps 89 0 89 8) [topFrame (ps 0 0 0 0)]) = some (.next, shOf hpB (w.withFollow "special-get-raises" true) 380 os, cE, ps 90 0 136 16) := by kernel_rfl
theorem segB (w : World) (os : OsState) : segRun treeTable pwx w 11 (some (.ref 6)) 1 489 (shOf hpA w 284 os) (piecesOf ((bdy.drop 11).take 1) env0 cE (ps 89 0 89 8) [topFrame (ps 0 0 0 0)]) = some (.next, shOf hpB w 380 os, cE, ps 90 0 136 16) :=
  byRow2 "special-get-raises" (P := fun w => segRun treeTable pwx w 11 (some (.ref 6)) 1 489 (shOf hpA w 284 os) (piecesOf ((bdy.drop 11).take 1) env0 cE (ps 89 0 89 8) [topFrame (ps 0 0 0 0)]) = some (.next, shOf hpB w 380 os, cE, ps 90 0 136 16)) (fun w => segBf w os) (fun w => segBt w os) w
set_option maxHeartbeats 0 in
theorem segDf (w : World) (os : OsState) : segRun treeTable pwx (w.withFollow "special-get-raises" false) 11 (some (.ref 6)) 1 979 (shOf hpC (w.withFollow "special-get-raises" false) 480 os) (piecesOf ((bdy.drop 62).take 1) env0 cE (ps 186 0 186 11) [topFrame (ps 0 0 0 0)]) = some (.next, shOf hpD (w.withFollow "special-get-raises" false) 577 os, cE, ps 187 0 187 17) := by kernel_rfl
set_option maxHeartbeats 0 in
theorem segDt (w : World) (os : OsState) : segRun treeTable pwx (w.withFollow "special-get-raises" true) 11 (some (.ref 6)) 1 979 (shOf hpC (w.withFollow "special-get-raises" true) 480 os) (piecesOf ((bdy.drop 62).take 1) env0 cE (ps 186 0 186 11) [topFrame (ps 0 0 0 0)]) = some (.next, shOf hpD (w.withFollow "special-get-raises" true) 577 os, cE, ps 187 0 187 17) := by kernel_rfl
theorem segD (w : World) (os : OsState) : segRun treeTable pwx w 11 (some (.ref 6)) 1 979 (shOf hpC w 480 os) (piecesOf ((bdy.drop 62).take 1) env0 cE (ps 186 0 186 11) [topFrame (ps 0 0 0 0)]) = some (.next, shOf hpD w 577 os, cE, ps 187 0 187 17) :=
  byRow2 "special-get-raises" (P := fun w => segRun treeTable pwx w 11 (some (.ref 6)) 1 979 (shOf hpC w 480 os) (piecesOf ((bdy.drop 62).take 1) env0 cE (ps 186 0 186 11) [topFrame (ps 0 0 0 0)]) = some (.next, shOf hpD w 577 os, cE, ps 187 0 187 17)) (fun w => segDf w os) (fun w => segDt w os) w
set_option maxHeartbeats 0 in
theorem segC (w : World) (os : OsState) : segRun treeTable pwx w 11 (some (.ref 6)) 1 451 (shOf hpB w 380 os) (piecesOf ((bdy.drop 12).take 50) env0 cE (ps 90 0 136 16) [topFrame (ps 0 0 0 0)]) = some (.next, shOf hpC w 480 os, cE, ps 186 0 186 11) := by kernel_rfl
set_option maxHeartbeats 0 in
theorem segE (w : World) (os : OsState) : (topRun treeTable pwx w 11 (some (.ref 6)) 400 (shOf hpD w 577 os) (restOf (bdy.drop 63) env0 cE (ps 187 0 187 17) [topFrame (ps 0 0 0 0)])).map (fun s => ((staticsOk (importedModules pwx.main.body) (boot_heap w.params) s.heap && namesBound pwx s.heap && gensDone s && laidKept (boot_heap w.params) s.heap), look s)) = some (true, (openGood vw lse, Hook.val hkk w)) := by kernel_rfl
theorem opn (w : World) : (fencedOpening treeTable pwx w 5202).map (fun s => (s.heap, s.gens, s.drawn, s.toks)) = some (boot_heap w.params, Array.mk [], boot_drawn, boot_toks) := boot_open (by kernel_rfl) (by kernel_rfl) (fun s => by kernel_rfl) w
theorem opz (w : World) : ((boot_heap w.params).isNs mainGlobals && (Array.mk ([] : List GenState)).size == 0, (boot_heap w.params).objs.size, (boot_heap w.params).nsMap mainGlobals "__annotations__") = (true, 11, some (.ref 6)) := by kernel_rfl
theorem hleft : LeftO pwx vw lse tst (Hook.obs hkk) (Hook.val hkk) 5202 := by
  refine left_of (M := 12 + (1 + (285 + (489 + (451 + (979 + 400)))))) opn opz (fun w os => ?_) (by decide)
  obtain ⟨r, a, b⟩ := Option.map_eq_some_iff.mp (segE w os)
  exact ⟨r, go_top (segP w os) (piece_block (segQ w os) (on_rest (i := 0) (j := 11) (segA w os) (on_rest (i := 11) (j := 1) (segB w os) (on_rest (i := 12) (j := 50) (segC w os) (on_rest (i := 62) (j := 1) (segD w os) a))))), b⟩
end Hd
end Mine
end

namespace Mine
theorem ltD {a D d N : Nat} (h : a + D < N) (k : 1 + d ≤ D) : a + 1 + d < N := by omega
theorem ltU {a D d N : Nat} (h : a + D < N) (k : 3 + d ≤ D) : a + 3 + d < N := by omega
end Mine
section
open PySem PySem.W PySem.Spec PySem.Calls PyProof.Rows
namespace Mine
set_option maxRecDepth 100000

noncomputable abbrev prog : Program := PySem.Challenge.rw_sn0080_01.row.prog
abbrev AR (dp un : Nat) (fr : Option (List Env)) (gd : Option (List Code)) : Around := { handled := none, depth := dp, frames := fr, guards := gd, units := un }

/-- the world's facts -/
structure G (w : World) (h : Heap) : Prop where
  k : (Mine.K0 w.params).In h
  t : ∃ p lo mean mg mb, Top p lo mean mg mb h

theorem G.keeps {w : World} {h h' : Heap} (g : G w h) (k : ∀ b o, h.get? b = some o → h'.get? b = some o) : G w h' :=
  ⟨g.k.keeps k, let ⟨p, l, a, b, c, t⟩ := g.t; ⟨p, l, a, b, c, t.keeps k⟩⟩

/-- a contract of a def that changes nothing that stands -/
def Fn (w : World) (f : Addr) (vals : List Value) (d u : Nat) (Pre : Heap → Prop) (Post : Heap → Value → Heap → Prop) : Prop :=
  ∀ (dp un : Nat) (fr : Option (List Env)) (gd : Option (List Code)) (s : Shared) (R : Result → Shared → Prop),
    G w s.heap → dp + d < recursionLimit → un + u < cLine → Pre s.heap →
    (∀ v h' tk', s.heap.StaysIn h' → Post s.heap v h' → R (.ok (.ret v)) { s with heap := h', toks := tk' }) →
    codeAny (model prog w) (AR dp un fr gd) (.call (.ref f) ⟨vals, []⟩) R s

section
variable {w : World} {A : Around} {E : Value → Shared → Prop} {s : Shared} {h₀ h : Heap} {L : Addr} {m : Str → Option Value} {news : List (Addr × Obj)}

theorem frLater {h' : Heap} (F : Fr h₀ L h m) (k : h.StaysIn h') : Fr h₀ L h' m :=
  ⟨F.ns.keeps k, fun b o e => k b o (F.keep b o e), F.above⟩
theorem newsLater {h' : Heap} (N : News h₀ L h news) (k : h.StaysIn h') : News h₀ L h' news :=
  fun p hp => ⟨k _ _ (N p hp).1, (N p hp).2⟩

theorem Fn.use {f : Addr} {vals : List Value} {d u : Nat} {Pre : Heap → Prop} {Post : Heap → Value → Heap → Prop} {Q : Value → Shared → Prop}
    (C : Fn w f vals d u Pre Post) (g : G w h₀) (F : Fr h₀ L s.heap m) (N : News h₀ L s.heap news) (hh : A.handled = none) (hd : A.depth + d < recursionLimit) (hu : A.units + u < cLine) (hpre : Pre s.heap)
    (h : ∀ v h' tk', s.heap.StaysIn h' → Fr h₀ L h' m → News h₀ L h' news → Post s.heap v h' → Q v { s with heap := h', toks := tk' }) :
    wpAny (model prog w) A (call (.ref f) vals) Q E s := by
  obtain ⟨hd', dp, fr, gd, un⟩ := A
  cases hh
  refine wpAny_call ?_
  exact C dp un fr gd s _ (g.keeps F.keep) hd hu hpre fun v h' tk' st hp => h v h' tk' st (frLater F st) (newsLater N st) hp

variable {R : Result → Shared → Prop} {name qual : Str} {params : Arguments} {body : List Stmt} {scope : Scope} {cl : List (Str × Addr)} {dV kV doc pm cdv ct : Value} {an : Option Addr} {fo : Obj} {f : Addr} {args : Args} {binds : List (Str × Value)}

theorem hid_news {hid : List (Addr × Obj)} {h h₁ : Heap} (hids : ∀ p ∈ hid, h.get? p.1 = some p.2) (hk : ∀ b o, h.get? b = some o → h₁.get? b = some o) : News (hideAll h (hid.map (·.1))) h.objs.size h₁ hid :=
  fun p hp => ⟨hk _ _ (hids p hp), Nat.ne_of_lt (Heap.lt_size (hids p hp)), hideAll_none _ (List.mem_map_of_mem hp)⟩

/-- enter a def; what stands in hid may be changed -/
theorem enterH {w : World} (hid : List (Addr × Obj)) (g : G w (hideAll s.heap (hid.map (·.1)))) (hids : ∀ p ∈ hid, s.heap.get? p.1 = some p.2)
    (ho : s.heap.get? f = some fo) (hd : fo.data = .func (fnX name qual params body scope cl dV kV doc pm an cdv ct)) (hcd : s.heap.CodeRec cdv qual) (hroom : A.depth < recursionLimit)
    (hbind : BindsTo s (fnX name qual params body scope cl dV kV doc pm an cdv ct) args binds) (hloc : ∀ y ∈ binds, scope.names.lookup y.1 = some .local)
    (h : ∀ L' h₁ p lo mean mg mb, Fr (hideAll s.heap (hid.map (·.1))) L' h₁ (fun y => binds.reverse.lookup y) → News (hideAll s.heap (hid.map (·.1))) L' h₁ hid → (∀ p ∈ hid, p.1 < L') → (Mine.K0 w.params).In (hideAll s.heap (hid.map (·.1))) → Top p lo mean mg mb (hideAll s.heap (hid.map (·.1))) →
      wpAny (model prog w) (A.deeper (envX qual scope L' f cdv cl)) (execs body (envX qual scope L' f cdv cl))
        (fun fl s' => R (.ok (.ret (match fl with | .ret v => v | _ => .none))) s')
        (fun _ _ => False)
        { s with heap := h₁, toks := s.toks + binds.length })
    (hco : scope.isCoroutine = false) (hgen : scope.isGenerator = false) (hk : scope.kind = .function)
    (hcell : ∀ x ∈ scope.names, x.2 ≠ .cell) : codeAny (model prog w) A (.call (.ref f) args) R s := by
  obtain ⟨p, lo, mean, mg, mb, T⟩ := g.t
  refine codeAny_call_def (fd := fnX name qual params body scope cl dV kV doc pm an cdv ct) (body := body) (binds := binds) hroom ho hd (T.nolimit.keeps fun b o e => of_hideAll _ e) hcd rfl hbind hcell hloc (fun h₁ hns hk₁ => ?_) hco hgen hk
  exact wpAny_noRaise (h s.heap.objs.size h₁ p lo mean mg mb ⟨hns, fun b o e => hk₁ b o (of_hideAll _ e), Nat.le_of_eq (hideAll_size _ _)⟩ (hid_news hids hk₁) (fun p hp => Heap.lt_size (hids p hp)) g.k T)

theorem enterHC {w : World} (hid : List (Addr × Obj)) (g : G w (hideAll s.heap (hid.map (·.1)))) (hids : ∀ p ∈ hid, s.heap.get? p.1 = some p.2)
    (ho : s.heap.get? f = some fo) (hd : fo.data = .func (fnX name qual params body scope [] dV kV doc pm an cdv ct)) (hcd : s.heap.CodeRec cdv qual) (hroom : A.depth < recursionLimit)
    (hbind : BindsTo s (fnX name qual params body scope [] dV kV doc pm an cdv ct) args binds) (hkind : (binds.all fun y => scope.names.lookup y.1 == some .local || scope.names.lookup y.1 == some .cell) = true)
    (hnd : ((cellsFrom 0 scope.names []).map (·.1)).Nodup)
    (h : ∀ L' h₁ tk cells p lo mean mg mb, Fr (hideAll s.heap (hid.map (·.1))) L' h₁ (bindL (envOfC qual scope L' f cdv).kindOf binds fun _ => none) → News (hideAll s.heap (hid.map (·.1))) L' h₁ (cells ++ hid) →
      CellsAre (bindC (envOfC qual scope L' f cdv).kindOf binds fun _ => none) (cellsFrom (L' + 1) scope.names []) cells → (∀ p ∈ hid, p.1 < L') → (Mine.K0 w.params).In (hideAll s.heap (hid.map (·.1))) → Top p lo mean mg mb (hideAll s.heap (hid.map (·.1))) →
      wpAny (model prog w) (A.deeper (envOfC qual scope L' f cdv)) (execs body (envOfC qual scope L' f cdv))
        (fun fl s' => R (.ok (.ret (match fl with | .ret v => v | _ => .none))) s')
        (fun _ _ => False)
        { s with heap := h₁, toks := tk })
    (hco : scope.isCoroutine = false) (hgen : scope.isGenerator = false) (hk : scope.kind = .function) : codeAny (model prog w) A (.call (.ref f) args) R s := by
  obtain ⟨p, lo, mean, mg, mb, T⟩ := g.t
  have nl := T.nolimit.keeps (h' := s.heap) fun b o e => of_hideAll _ e
  refine codeAny_call_function hroom ho hd hco hgen rfl hcd (hbind _ _ _ _ ?_)
  refine wpAny_newFunctionEnv_cells hk (kindsX hkind _) fun env' he s' x => ?_
  subst he
  refine ⟨nl.keeps x.toInCall.keep, codeAny_func ?_⟩
  obtain ⟨h₁, tk, rfl, _⟩ := x.done
  have hk₁ := x.toInCall.keep
  obtain ⟨cells, NC, Y⟩ := Cl.news (h₀ := s.heap) (Nat.le_refl _) fun n c hm => ⟨x.cell n c (lookup_of_mem_nodup (cellsFrom_names scope.names 0 (s.heap.objs.size + 1) [] [] rfl ▸ hnd) hm), x.above n c hm⟩
  refine wpAny_noRaise (h s.heap.objs.size h₁ tk cells p lo mean mg mb ⟨x.toInCall.ns, fun b o e => hk₁ b o (of_hideAll _ e), Nat.le_of_eq (hideAll_size _ _)⟩ (fun p hp => ?_) Y (fun p hp => Heap.lt_size (hids p hp)) g.k T)
  rcases List.mem_append.mp hp with hp | hp
  · refine ⟨(NC p hp).1, (NC p hp).2.1, ?_⟩
    cases q : (hideAll s.heap (hid.map (·.1))).get? p.1 with
    | none => rfl
    | some o => have := of_hideAll _ q; rw [(NC p hp).2.2] at this; cases this
  · exact hid_news hids hk₁ p hp
theorem fn_at {w : World} {oc : Value} {od : Option Addr} {osl : Array (Option Value)} {fd : FuncData} {h : Heap} (g : G w h) (ho : (Mine.K0 w.params).lookup f = some ⟨oc, od, .func fd, osl⟩) : h.get? f = some ⟨oc, od, .func fd, osl⟩ := g.k _ _ ho
end


/-! loops -/
section
variable {w : World} {A : Around} {s : Shared} {h₀ : Heap} {env : Env}

/-- an iterator: one object, its states, what it yields; Ok: what else it reads -/
structure Iter (w : World) (A : Around) (I : Addr) (it : Nat → Obj → Prop) (item : Nat → Value → Prop) (n : Nat) (Ok : Heap → Prop) : Prop where
  next : ∀ (k : Nat) (o : Obj) (s : Shared) (Q : Option Value → Shared → Prop) (E : Value → Shared → Prop), k < n → it k o → s.heap.get? I = some o → Ok s.heap →
    (∀ v h' tk' o', item k v → it (k + 1) o' → h'.get? I = some o' → Heap.SameBut I s.heap h' → Q (some v) { s with heap := h', toks := tk' }) → wpAny (model prog w) A (pyNext (.ref I)) Q E s
  done : ∀ (o : Obj) (s : Shared) (Q : Option Value → Shared → Prop) (E : Value → Shared → Prop), it n o → s.heap.get? I = some o → Ok s.heap →
    (∀ h', Heap.ExtBut I s.heap h' → Q none { s with heap := h' }) → wpAny (model prog w) A (pyNext (.ref I)) Q E s
  quiet : ∀ (k : Nat) (o : Obj) (s : Shared) (target : PySem.Expr) (v : Value) (Q : Unit → Shared → Prop) (E : Value → Shared → Prop), it k o → s.heap.get? I = some o → Q () s →
    wpAny (model prog w) A (letOwnedTupleGo target (.ref I) v) Q E s

theorem next_new {L : Addr} {m : Str → Option Value} (F : Fr h₀ L s.heap m) : h₀.get? s.heap.objs.size = none := by
  cases q : h₀.get? s.heap.objs.size with
  | none => rfl
  | some o => exact absurd (Heap.lt_size (F.keep _ _ q)) (Nat.lt_irrefl _)

theorem frSameBut {h h' : Heap} {L I : Addr} {m : Str → Option Value} (F : Fr h₀ L h m) (hs : Heap.ExtBut I h h') (hL : L ≠ I) (h0 : h₀.get? I = none) : Fr h₀ L h' m :=
  ⟨F.ns.extBut hs hL, fun b o e => hs b o (fun q => by rw [q, h0] at e; cases e) (F.keep b o e), F.above⟩
theorem newsSameBut {h h' : Heap} {L I : Addr} {news : List (Addr × Obj)} (N : News h₀ L h news) (hs : Heap.ExtBut I h h') (hI : ∀ p ∈ news, p.1 ≠ I) : News h₀ L h' news :=
  fun p hp => ⟨hs _ _ (hI p hp) (N p hp).1, (N p hp).2⟩

theorem loopI {target : PySem.Expr} {body : List Stmt} {I : Addr} {it : Nat → Obj → Prop} {item : Nat → Value → Prop} {n : Nat} {Ok : Heap → Prop} {m : Str → Option Value} {news : List (Addr × Obj)} {Q : Flow → Shared → Prop} {o₀ : Obj}
    (It : Iter w A I it item n Ok) (J : Nat → (Str → Option Value) → List (Addr × Obj) → Prop)
    (F : Fr h₀ env.locals s.heap m) (h0 : it 0 o₀) (N : News h₀ env.locals s.heap ((I, o₀) :: news)) (hI : ∀ p ∈ news, p.1 ≠ I) (hj : J 0 m news)
    (hok : ∀ k m' nx h, J k m' nx → Fr h₀ env.locals h m' → News h₀ env.locals h nx → Ok h)
    (turn : ∀ k v m₁ nx h tk o, k < n → item k v → it (k + 1) o → J k m₁ nx → (∀ p ∈ nx, p.1 ≠ I) → Fr h₀ env.locals h m₁ → News h₀ env.locals h ((I, o) :: nx) →
      wpAny (model prog w) A (assign target env v) (fun _ s₂ => wpAny (model prog w) A (execs body env) (UnrPost h₀ env.locals { s with heap := h, toks := tk } I o (J (k + 1)) Q) (fun _ _ => False) s₂) (fun _ _ => False) { s with heap := h, toks := tk })
    (done : ∀ m₁ nx h tk, J n m₁ nx → Fr h₀ env.locals h m₁ → News h₀ env.locals h nx → Q .next { s with heap := h, toks := tk }) :
    codeAny (model prog w) A (.forLoop target (.ref I) body [] env) (fun r s' => match r with | .ok f => Q f s' | .error _ => False) s := by
  have nL : ∀ {h o} {nx : List (Addr × Obj)}, News h₀ env.locals h ((I, o) :: nx) → env.locals ≠ I := fun N => (N _ (.head _)).2.1.symm
  have n0 : h₀.get? I = none := (N _ (.head _)).2.2
  refine codeAny_forLoop_any (fun k s' => ∃ i m' nx h tk o, k = n - i ∧ i ≤ n ∧ s' = { s with heap := h, toks := tk } ∧ J i m' nx ∧ (∀ p ∈ nx, p.1 ≠ I) ∧ it i o ∧ Fr h₀ env.locals h m' ∧ News h₀ env.locals h ((I, o) :: nx)) ?_ n ⟨0, m, news, s.heap, s.toks, o₀, rfl, Nat.zero_le _, rfl, hj, hI, h0, F, N⟩
  rintro k s' ⟨i, m', nx, h, tk, o, rfl, hi, rfl, hJ, hoff, hio, F', N'⟩
  have Nx : News h₀ env.locals h nx := fun p hp => N' p (.tail _ hp)
  have ok := hok i m' nx h hJ F' Nx
  refine wpAny_noRaise ?_
  by_cases hlt : i < n
  · refine It.next i o _ _ _ hlt hio (N' _ (.head _)).1 ok fun v h₁ tk₁ o₁ hv hio₁ hI₁ hs₁ => ?_
    have F₁ := frSameBut F' hs₁.extBut (nL N') n0
    have N₁ : News h₀ env.locals h₁ ((I, o₁) :: nx) := fun p hp => by
      rcases List.mem_cons.mp hp with rfl | hp
      · exact ⟨hI₁, (N' _ (.head _)).2⟩
      · exact newsSameBut Nx hs₁.extBut hoff p hp
    refine It.quiet (i + 1) o₁ _ target v _ _ hio₁ (by exact hI₁) ?_
    refine wpAny_noRaise (wpAny_mono (turn i v m' nx h₁ tk₁ o₁ hlt hv hio₁ hJ hoff F₁ N₁) (fun _ s₂ h₂ => wpAny_noRaise (wpAny_mono h₂ (fun f s₃ p => ?_) fun _ _ e => e)) fun _ _ e => e)
    have fin : UnrEnd h₀ env.locals { s with heap := h₁, toks := tk₁ } I o₁ (J (i + 1)) s₃ → ∃ mm, mm < n - i ∧ ∃ i' m' nx h tk o, mm = n - i' ∧ i' ≤ n ∧ s₃ = { s with heap := h, toks := tk } ∧ J i' m' nx ∧ (∀ p ∈ nx, p.1 ≠ I) ∧ it i' o ∧ Fr h₀ env.locals h m' ∧ News h₀ env.locals h ((I, o) :: nx) := by
      rintro ⟨h', tk', m₂, news', rfl, F₂, N₂, ho, hJ₂⟩
      exact ⟨n - (i + 1), by omega, i + 1, m₂, news', h', tk', o₁, rfl, hlt, rfl, hJ₂, ho, hio₁, F₂, N₂⟩
    cases f with
    | ret v => exact p
    | brk => exact p
    | next => exact fin p
    | cont => exact fin p
  · have hin : i = n := by omega
    subst hin
    refine It.done o _ _ _ hio (N' _ (.head _)).1 ok fun h₁ hs₁ => wpAny_execs_nil ?_
    exact done m' nx h₁ tk hJ (frSameBut F' hs₁ (nL N') n0) (newsSameBut Nx hs₁ hoff)

theorem forI {target iter : PySem.Expr} {body : List Stmt} {pos : Pos} {Q : Flow → Shared → Prop}
    (h : wpAny (model prog w) A (eval iter env) (fun xv s₁ => wpAny (model prog w) A (pyIter xv) (fun it s₂ =>
      codeAny (model prog w) A (.forLoop target it body [] env) (fun r s' => match r with | .ok f => Q f s' | .error _ => False) s₂) (fun _ _ => False) s₁) (fun _ _ => False) s)
    (hs : ∀ x, foldedSetIterable iter env x = pure x) :
    wpAny (model prog w) A (exec (.For target iter body [] pos) env) Q (fun _ _ => False) s := by
  refine wpAny_For (wpAny_mono h (fun xv s₁ h₁ => wpAny_mono h₁ (fun it s₂ h₂ => codeAny_mono h₂ fun r s' hr => ?_) fun _ _ e => e) fun _ _ e => e) hs
  cases r with
  | ok f => exact hr
  | error e => exact hr.elim
end

section
variable {w : World} {A : Around}
theorem letGo_plain {o : Obj} {cn : String} {s : Shared} {I : Addr} {target : PySem.Expr} {v : Value} {Q : Unit → Shared → Prop} {E : Value → Shared → Prop} (ho : s.heap.get? I = some o) (hc : o.cls = .type cn)
    (hn : (["enumerate", "zip", "dict_itemiterator", "dict_reverseitemiterator", "odict_iterator", "itertools.zip_longest", "itertools.pairwise"].contains cn) = false) (hQ : Q () s) :
    wpAny (model prog w) A (letOwnedTupleGo target (.ref I) v) Q E s := by
  have key : ∀ a : Addr, wpAny (model prog w) A (do
      let o ← load I
      match o.cls, o.data with
      | .type n, .fields vs =>
        if ["enumerate", "zip", "dict_itemiterator", "dict_reverseitemiterator", "odict_iterator", "itertools.zip_longest", "itertools.pairwise"].contains n && vs[0]? == some (rawInt a) then
          rule "for.unpacks-the-owned-tuple"
          updateField I 0 .none
      | _, _ => pure ()) Q E s := fun a => by
    refine wpAny_bind (wpAny_load ho ?_)
    obtain ⟨c, d, dt, sl⟩ := o
    simp only at hc
    subst hc
    cases dt <;> first | exact wpAny_pure hQ | skip
    simp only [hn, Bool.false_and, Bool.false_eq_true, if_false]
    exact wpAny_pure hQ
  unfold letOwnedTupleGo
  split
  · cases v <;> first | exact wpAny_pure hQ | exact key _
  · cases v <;> first | exact wpAny_pure hQ | exact key _
  · exact wpAny_pure hQ

theorem Iter.list {I l : Addr} {items : Array Value} (hh : A.handled = none) :
    Iter w A I (fun k o => o.cls = .type "list_iterator" ∧ o.data = .fields #[.ref l, .int (k : Int) 0]) (fun k v => items[k]? = some v) items.size (fun h => h.IsList l items) where
  next := fun k o s Q E hk hit ho hl hQ => by
    have hx : items[k]? = some items[k] := Array.getElem?_eq_getElem hk
    refine wpAny_pyNext_list_item ⟨_, ho, hit.1, hit.2⟩ hl hx fun h' hit' hs => ?_
    obtain ⟨o', ho', hc, hd⟩ := hit'
    exact hQ _ h' s.toks o' hx ⟨hc, hd⟩ ho' hs
  done := fun o s Q E hit ho hl hQ => wpAny_pyNext_list_end hh ⟨_, ho, hit.1, hit.2⟩ hl (Array.getElem?_eq_none (Nat.le_refl _)) hQ
  quiet := fun k o s target v Q E hit ho hQ => letGo_plain ho hit.1 (by decide) hQ

theorem Iter.tuple {I l : Addr} {items : Array Value} (hh : A.handled = none) :
    Iter w A I (fun k o => o.cls = .type "tuple_iterator" ∧ o.data = .fields #[.ref l, .int (k : Int) 0]) (fun k v => items[k]? = some v) items.size (fun h => h.IsTuple l items) where
  next := fun k o s Q E hk hit ho hl hQ => by
    have hx : items[k]? = some items[k] := Array.getElem?_eq_getElem hk
    refine wpAny_pyNext_tuple_item ⟨_, ho, hit.1, hit.2⟩ hl hx fun h' hit' hs => ?_
    obtain ⟨o', ho', hc, hd⟩ := hit'
    exact hQ _ h' s.toks o' hx ⟨hc, hd⟩ ho' hs
  done := fun o s Q E hit ho hl hQ => wpAny_pyNext_tuple_end hh ⟨_, ho, hit.1, hit.2⟩ hl (Array.getElem?_eq_none (Nat.le_refl _)) hQ
  quiet := fun k o s target v Q E hit ho hQ => letGo_plain ho hit.1 (by decide) hQ

theorem Iter.range {I : Addr} (hh : A.handled = none) (a : Int) (n : Nat) :
    Iter w A I (fun k o => o = itR (a + (k : Int)) ((n : Int) - (k : Int))) (fun k v => ∃ t, v = .int (a + (k : Int)) t) n (fun _ => True) where
  next := fun k o s Q E hk hit ho _ hQ => by
    subst hit
    refine wpAny_pyNext_range_item (x := a + (k : Int)) (left := (n : Int) - (k : Int)) (step := 1) ho (by omega) fun h' hit' hs => ?_
    refine hQ _ h' _ _ ⟨_, rfl⟩ rfl ?_ hs
    have e1 : a + ((k + 1 : Nat) : Int) = a + (k : Int) + 1 := by omega
    have e2 : (n : Int) - ((k + 1 : Nat) : Int) = (n : Int) - (k : Int) - 1 := by omega
    rw [e1, e2]
    exact hit'
  done := fun o s Q E hit ho _ hQ => by
    subst hit
    exact wpAny_pyNext_range_end (x := a + (n : Int)) (left := (n : Int) - (n : Int)) (step := 1) hh ho (by omega) hQ
  quiet := fun k o s target v Q E hit ho hQ => letGo_plain ho (by subst hit; rfl) (by decide) hQ
end

section
variable {w : World} {A : Around} {s : Shared} {h₀ : Heap} {L : Addr} {m : Str → Option Value} {news : List (Addr × Obj)} {E : Value → Shared → Prop}
/-- pyIter, the new iterator onto the ledger -/
theorem iterList {l : Addr} {items : Array Value} {Q : Value → Shared → Prop} (F : Fr h₀ L s.heap m) (N : News h₀ L s.heap news) (hl : s.heap.IsList l items)
    (h : ∀ I o h', o.cls = .type "list_iterator" ∧ o.data = .fields #[.ref l, .int ((0 : Nat) : Int) 0] → (∀ p ∈ news, p.1 < I) → Fr h₀ L h' m → News h₀ L h' ((I, o) :: news) → Q (.ref I) { s with heap := h' }) :
    wpAny (model prog w) A (pyIter (.ref l)) Q E s :=
  wpAny_pyIter_list hl (h _ _ _ ⟨rfl, rfl⟩ (fun p hp => Heap.lt_size (N p hp).1) (F.push _) (N.push F _))
theorem iterTuple {l : Addr} {items : Array Value} {Q : Value → Shared → Prop} (F : Fr h₀ L s.heap m) (N : News h₀ L s.heap news) (hl : s.heap.IsTuple l items)
    (h : ∀ I o h', o.cls = .type "tuple_iterator" ∧ o.data = .fields #[.ref l, .int ((0 : Nat) : Int) 0] → (∀ p ∈ news, p.1 < I) → Fr h₀ L h' m → News h₀ L h' ((I, o) :: news) → Q (.ref I) { s with heap := h' }) :
    wpAny (model prog w) A (pyIter (.ref l)) Q E s :=
  wpAny_pyIter_tuple hl (h _ _ _ ⟨rfl, rfl⟩ (fun p hp => Heap.lt_size (N p hp).1) (F.push _) (N.push F _))
theorem iterRange {r : Addr} {a b : Int} {t u v : Tok} {n : Nat} {Q : Value → Shared → Prop} (F : Fr h₀ L s.heap m) (N : News h₀ L s.heap news) (hr : IsRange s.heap r a b 1 t u v) (hsmall : Builtin.Range.small a b 1 = true) (hn : Builtin.Range.rangeSize a b 1 = (n : Int))
    (h : ∀ I o h', o = itR (a + ((0 : Nat) : Int)) ((n : Int) - ((0 : Nat) : Int)) → (∀ p ∈ news, p.1 < I) → Fr h₀ L h' m → News h₀ L h' ((I, o) :: news) → Q (.ref I) { s with heap := h' }) :
    wpAny (model prog w) A (pyIter (.ref r)) Q E s := by
  refine wpAny_pyIter_range hr hsmall (h _ _ _ ?_ (fun p hp => Heap.lt_size (N p hp).1) (F.push _) (N.push F _))
  rw [hn]
  simp [itR]
end
end Mine
end
section
open Lean Elab Tactic Meta PySem PySem.W PyProof.Rows
namespace Mine


def updM (l : List (PySem.Str × Value)) (m : PySem.Str → Option Value) : PySem.Str → Option Value := fun y => match l.lookup y with | some v => some v | none => m y
def Told (m : PySem.Str → Option Value) : List (PySem.Str × Value) → Prop
  | [] => True
  | p :: r => m p.1 = some p.2 ∧ Told m r
theorem updM_eq {m : PySem.Str → Option Value} : ∀ {l : List (PySem.Str × Value)}, Told m l → updM l m = m
  | [], _ => by funext y; rfl
  | p :: r, h => by
    funext y
    have ih := congrFun (updM_eq h.2) y
    unfold updM at ih ⊢
    rw [List.lookup_cons]
    by_cases q : (y == p.1) = true
    · rw [q, show y = p.1 from beq_iff_eq.mp q, h.1]
    · rw [show (y == p.1) = false from by simpa using q]; exact ih
theorem frKnow {h₀ h : Heap} {L : Addr} {m : PySem.Str → Option Value} (F : Fr h₀ L h m) (l : List (PySem.Str × Value)) (e : Told m l) : Fr h₀ L h (updM l m) := by
  rw [updM_eq e]; exact F

def FreshInts (h : Heap) (v : Value) (h' : Heap) (ns : List Int) : Prop := ∃ a vs n, v = .ref a ∧ h.get? a = none ∧ h'.get? a = some (PySem.W.listOf vs.toArray n) ∧ IntsAre vs ns
theorem fresh_of {h : Heap} {b : Addr} (hb : h.objs.size ≤ b) : h.get? b = none := by
  cases q : h.get? b with
  | none => rfl
  | some o => exact absurd (Heap.lt_size q) (Nat.not_lt.mpr hb)
theorem newsNew {h₀ h h' : Heap} {L b : Addr} {m : PySem.Str → Option Value} {news : List (Addr × Obj)} {o : Obj} (F : Fr h₀ L h m) (N : News h₀ L h' news) (hb : h'.get? b = some o) (hn : h.get? b = none) : News h₀ L h' ((b, o) :: news) := fun p hp => by
  rcases List.mem_cons.mp hp with rfl | hp
  · refine ⟨hb, fun q => ?_, ?_⟩
    · obtain ⟨oL, _, _, hL, _⟩ := F.ns
      rw [← q] at hL
      rw [hL] at hn; cases hn
    · cases q : h₀.get? b with
      | none => rfl
      | some o' => rw [F.keep _ _ q] at hn; cases hn
  · exact N p hp
end Mine
end
section
open PySem PySem.W PySem.Spec PySem.Calls PyProof.Rows
namespace Mine
set_option maxRecDepth 100000
section
variable {w : World} {A : Around} {s : Shared} {h₀ : Heap} {env : Env}
def enumO (it : Addr) (k : Nat) (old : Value) : Obj := { cls := .type "enumerate", dict := none, data := .fields #[.none, .bool false, .ref it, rawInt (k : Int), .none, old], slots := #[] }
def litO (l : Addr) (k : Nat) (o : Obj) : Prop := o.cls = .type "list_iterator" ∧ o.data = .fields #[.ref l, .int (k : Int) 0]
def EnumEnd (h₀ : Heap) (L : Addr) (s₁ : Shared) (e it : Addr) (oe oi : Obj) (J : (Str → Option Value) → List (Addr × Obj) → Prop) (f : Flow) (s₂ : Shared) : Prop :=
  f = .next ∧ ∃ h' tk m' nx, s₂ = { s₁ with heap := h', toks := tk } ∧ Fr h₀ L h' m' ∧ News h₀ L h' ((e, oe) :: (it, oi) :: nx) ∧ (∀ p ∈ nx, p.1 ≠ e ∧ p.1 ≠ it) ∧ J m' nx

theorem loopEnum {xi xv : Str} {pi pv pt : Pos} {kk} {body : List Stmt} {e it l : Addr} {items : Array Value} {m : Str → Option Value} {news : List (Addr × Obj)} {Q : Flow → Shared → Prop} {oi : Obj} {old : Value}
    (hh : A.handled = none) (hxi : env.kindOf xi = some .local) (hxv : env.kindOf xv = some .local)
    (hp : (env.scope.kind == .class || (env.scope.kind == .module && env.locals != env.globals)) = false)
    (J : Nat → (Str → Option Value) → List (Addr × Obj) → Prop)
    (F : Fr h₀ env.locals s.heap m) (hi : litO l 0 oi) (N : News h₀ env.locals s.heap ((e, enumO it 0 old) :: (it, oi) :: news)) (hoff : ∀ p ∈ news, p.1 ≠ e ∧ p.1 ≠ it) (hei : e ≠ it) (hle : l ≠ e) (hli : l ≠ it) (hj : J 0 m news)
    (hok : ∀ k m' nx h, J k m' nx → Fr h₀ env.locals h m' → News h₀ env.locals h nx → h.IsList l items)
    (turn : ∀ k v m₁ nx h tk t oi, items[k]? = some v → litO l (k + 1) oi → J k m₁ nx → (∀ p ∈ nx, p.1 ≠ e ∧ p.1 ≠ it) → Fr h₀ env.locals h (fun y => if y = xv then some v else if y = xi then some (.int (k : Int) t) else m₁ y) →
      News h₀ env.locals h ((e, enumO it (k + 1) v) :: (it, oi) :: nx) →
      wpAny (model prog w) A (execs body env) (EnumEnd h₀ env.locals { s with heap := h, toks := tk } e it (enumO it (k + 1) v) oi (J (k + 1))) (fun _ _ => False) { s with heap := h, toks := tk })
    (done : ∀ m₁ nx h tk, J items.size m₁ nx → Fr h₀ env.locals h m₁ → News h₀ env.locals h nx → Q .next { s with heap := h, toks := tk }) :
    codeAny (model prog w) A (.forLoop (.Tuple [.Name xi pi, .Name xv pv] kk pt) (.ref e) body [] env) (fun r s' => match r with | .ok f => Q f s' | .error _ => False) s := by
  have n1 : env.locals ≠ e := (N _ (.head _)).2.1.symm
  have n2 : env.locals ≠ it := (N _ (.tail _ (.head _))).2.1.symm
  have z1 : h₀.get? e = none := (N _ (.head _)).2.2
  have z2 : h₀.get? it = none := (N _ (.tail _ (.head _))).2.2
  refine codeAny_forLoop_any (fun k s' => ∃ i m' nx h tk oi old, k = items.size - i ∧ i ≤ items.size ∧ s' = { s with heap := h, toks := tk } ∧ J i m' nx ∧ (∀ p ∈ nx, p.1 ≠ e ∧ p.1 ≠ it) ∧ litO l i oi ∧ Fr h₀ env.locals h m' ∧ News h₀ env.locals h ((e, enumO it i old) :: (it, oi) :: nx)) ?_ items.size
    ⟨0, m, news, s.heap, s.toks, oi, old, rfl, Nat.zero_le _, rfl, hj, hoff, hi, F, N⟩
  rintro k s' ⟨i, m', nx, h, tk, oi, old, rfl, hile, rfl, hJ, hoff, hio, F', N'⟩
  have Nx : News h₀ env.locals h nx := fun p hp => N' p (.tail _ (.tail _ hp))
  have ok := hok i m' nx h hJ F' Nx
  have he : IsEnum h e it i old := (N' _ (.head _)).1
  have hit : h.IsListIter it l i := ⟨_, (N' _ (.tail _ (.head _))).1, hio.1, hio.2⟩
  refine wpAny_noRaise ?_
  cases hv : items[i]? with
  | none =>
    have hsz : i = items.size := Nat.le_antisymm hile (by simpa using hv)
    refine wpAny_pyNext_enum_end hh he hit ok hv fun h₁ hs₁ => wpAny_execs_nil ?_
    exact done m' nx h₁ tk (hsz ▸ hJ) (frSameBut F' hs₁ n2 z2) (newsSameBut Nx hs₁ fun p hp => (hoff p hp).2)
  | some v =>
    have hlt : i < items.size := (Array.getElem?_eq_some_iff.mp hv).1
    have hes : e < h.objs.size := Heap.lt_size he
    have his : it < h.objs.size := Heap.lt_size (N' _ (.tail _ (.head _))).1
    refine wpAny_pyNext_enum_item he hit ok hv hei fun h₁ heo hit₁ ht₁ hz₁ hk₁ => ?_
    refine wpAny_letOwnedTupleGo_enum heo fun h₂ he₂ hs₂ => ?_
    replace hs₂ : Heap.SameBut e h₁ h₂ := hs₂
    have ht₂ : h₂.IsTuple h.objs.size #[.int i tk, v] := ⟨_, (hs₂.2 _ (Nat.ne_of_gt hes)).trans ht₁, rfl, _, rfl⟩
    have hz₂ : h₂.objs.size = h.objs.size + 1 := hs₂.1.trans hz₁
    refine wpAny_assign_Tuple hh ht₂ rfl rfl fun h₃ hx₃ => ?_
    replace hx₃ : Heap.ExtBut h₂.objs.size h₂ h₃ := hx₃
    obtain ⟨oi₁, hoi₁, hc₁, hd₁⟩ := hit₁
    have up : ∀ b o, b ≠ e → b ≠ it → h.get? b = some o → h₃.get? b = some o := fun b o b1 b2 q => by
      have hb := Heap.lt_size q
      exact hx₃ b o (by rw [hz₂]; exact Nat.ne_of_lt (Nat.lt_succ_of_lt hb)) ((hs₂.2 b b1).trans (hk₁ b o b1 b2 q))
    have F₃ : Fr h₀ env.locals h₃ m' := ⟨F'.ns.at' fun o q => up _ o n1 n2 q, fun b o q => up b o (fun r => by rw [r, z1] at q; cases q) (fun r => by rw [r, z2] at q; cases q) (F'.keep b o q), F'.above⟩
    have ge : h₃.get? e = some (enumO it (i + 1) v) := by
      refine hx₃ e _ (by rw [hz₂]; exact Nat.ne_of_lt (Nat.lt_succ_of_lt hes)) ?_
      have : ((i + 1 : Nat) : Int) = (i : Int) + 1 := by push_cast; rfl
      unfold enumO
      rw [this]; exact he₂
    have gi : h₃.get? it = some oi₁ := hx₃ it _ (by rw [hz₂]; exact Nat.ne_of_lt (Nat.lt_succ_of_lt his)) ((hs₂.2 it hei.symm).trans hoi₁)
    have N₃ : News h₀ env.locals h₃ ((e, enumO it (i + 1) v) :: (it, oi₁) :: nx) := fun p hp => by
      rcases List.mem_cons.mp hp with rfl | hp
      · exact ⟨ge, n1.symm, z1⟩
      · rcases List.mem_cons.mp hp with rfl | hp
        · exact ⟨gi, n2.symm, z2⟩
        · exact ⟨up _ _ (hoff p hp).1 (hoff p hp).2 (Nx p hp).1, (Nx p hp).2⟩
    show wpAny _ A (do holding [v] (assign (.Name xi pi) env (.int i tk)); do holding [] (assign (.Name xv pv) env v); pure ()) _ _ _
    refine wpAny_bind (wpAny_holding (wpAny_assign_Name (wpAny_storeName_local hxi F₃.ns (fun h₄ hn₄ hs₄ => ?_) hp)))
    have F₄ := F₃.set hn₄ hs₄
    have N₄ := N₃.set hs₄
    refine wpAny_bind (wpAny_holding (wpAny_assign_Name (wpAny_storeName_local hxv hn₄ (fun h₅ hn₅ hs₅ => wpAny_pure ?_) hp)))
    have F₅ := F₄.set hn₅ hs₅
    have N₅ := N₄.set hs₅
    refine wpAny_noRaise (wpAny_mono (turn i v m' nx h₅ _ tk oi₁ hv ⟨hc₁, hd₁⟩ hJ hoff F₅ N₅) (fun f s₃ p => ?_) fun _ _ q => q)
    obtain ⟨rfl, h', tk', m₂, nx₂, rfl, F₆, N₆, off₆, hJ₆⟩ := p
    exact ⟨items.size - (i + 1), by omega, i + 1, m₂, nx₂, h', tk', oi₁, v, rfl, hlt, rfl, hJ₆, off₆, ⟨hc₁, hd₁⟩, F₆, N₆⟩

theorem call_enum {L l : Addr} {items : Array Value} {m : Str → Option Value} {news : List (Addr × Obj)} {Q : Value → Shared → Prop} {E : Value → Shared → Prop} (F : Fr h₀ L s.heap m) (N : News h₀ L s.heap news) (hl : s.heap.IsList l items)
    (h : ∀ e it oi h', litO l 0 oi → e ≠ it → (∀ p ∈ news, p.1 < it ∧ p.1 < e) → l ≠ e → l ≠ it → Fr h₀ L h' m → News h₀ L h' ((e, enumO it 0 .none) :: (it, oi) :: news) → Q (.ref e) { s with heap := h' }) :
    wpAny (model prog w) A (call (.type "enumerate") [.ref l]) Q E s := by
  refine call_enumerate_list hl fun h' he hit hsz hk => ?_
  obtain ⟨oi, hoi, hc, hd⟩ := hit
  obtain ⟨ol, hol, _⟩ := hl
  have hlt := Heap.lt_size hol
  refine h _ _ oi h' ⟨hc, hd⟩ (Nat.ne_of_gt (Nat.lt_succ_self _)) (fun p hp => ?_) (Nat.ne_of_lt (Nat.lt_succ_of_lt hlt)) (Nat.ne_of_lt hlt) (frLater F hk) ?_
  · have := Heap.lt_size (N p hp).1
    exact ⟨this, Nat.lt_succ_of_lt this⟩
  · exact newsNew F (newsNew F (newsLater N hk) hoi (fresh_of (Nat.le_refl _))) he (fresh_of (Nat.le_succ _))
end
end Mine
end
section
open PySem PySem.W PySem.Spec PySem.Calls PyProof.Rows
namespace Mine
set_option maxRecDepth 100000

theorem take_succ_of {α : Type} {l : List α} {k : Nat} {x : α} (h : l[k]? = some x) : l.take (k + 1) = l.take k ++ [x] := by
  rw [List.take_add_one, h]; rfl
def digs (n : Nat) : Nat → Nat → List Int
  | 0, _ => []
  | k + 1, x => ((x % 2 ^ n : Nat) : Int) :: digs n k (x / 2 ^ n)
theorem digs_length (n : Nat) : ∀ k x, (digs n k x).length = k
  | 0, _ => rfl
  | k + 1, x => by rw [digs, List.length_cons, digs_length n k]
theorem digs_add (n a b : Nat) : ∀ x, digs n (a + b) x = digs n a (x % 2 ^ (n * a)) ++ digs n b (x / 2 ^ (n * a)) := by
  induction a with
  | zero => intro x; simp [digs]
  | succ a ih =>
    intro x
    have e : 2 ^ (n * (a + 1)) = 2 ^ n * 2 ^ (n * a) := by rw [Nat.mul_succ, Nat.add_comm, Nat.pow_add]
    rw [Nat.succ_add, digs, digs, ih, e, Nat.mod_mul_right_mod, Nat.mod_mul_right_div_self, Nat.div_div_eq_div_mul, List.cons_append]
theorem digs_one (n x : Nat) (h : x < 2 ^ n) : digs n 1 x = [(x : Int)] := by
  rw [digs, digs, Nat.mod_eq_of_lt h]

theorem and_high (x s : Nat) : x &&& (x / 2 ^ s * 2 ^ s) = x / 2 ^ s * 2 ^ s := by
  refine Nat.eq_of_testBit_eq fun i => ?_
  rw [← Nat.shiftRight_eq_div_pow, ← Nat.shiftLeft_eq, Nat.testBit_and, Nat.testBit_shiftLeft, Nat.testBit_shiftRight]
  by_cases h : s ≤ i
  · rw [show s + (i - s) = i by omega]
    simp [h]
  · simp [h]
theorem xor_high (x s : Nat) : Builtin.bitXor (x : Int) (((x / 2 ^ s : Nat) : Int) * 2 ^ s) = ((x % 2 ^ s : Nat) : Int) := by
  have e : ((x / 2 ^ s : Nat) : Int) * 2 ^ s = ((x / 2 ^ s * 2 ^ s : Nat) : Int) := by push_cast; rfl
  have a : Builtin.bitAnd (x : Int) ((x / 2 ^ s * 2 ^ s : Nat) : Int) = ((x / 2 ^ s * 2 ^ s : Nat) : Int) := by
    unfold Builtin.bitAnd
    rw [decide_eq_true (Int.natCast_nonneg _), decide_eq_true (Int.natCast_nonneg _)]
    simp only [Int.toNat_natCast, and_high]
  rw [e, bitXor_and, a]
  have := Nat.div_add_mod x (2 ^ s)
  rw [Nat.mul_comm] at this
  omega
theorem fdiv_pow (x s : Nat) : (x : Int).fdiv (2 ^ s) = ((x / 2 ^ s : Nat) : Int) := by
  have e : (2 : Int) ^ s = ((2 ^ s : Nat) : Int) := by push_cast; rfl
  rw [e, Int.fdiv_eq_ediv_of_nonneg _ (Int.natCast_nonneg _), Int.natCast_ediv]
end Mine
end
section
open PySem PySem.W PySem.Spec PySem.Calls PyProof.Rows
namespace Mine
set_option maxRecDepth 100000
set_option maxHeartbeats 8000000
theorem fill8 : (PySem.Challenge.rw_sn0080_01.row.prog = PySem.Challenge.rw_sn0080_01.row.prog) ∧ (Mine.K0 = Mine.K0) := by k_fill; exact ⟨rfl, rfl⟩

def prodZ (w : Int) (ns : List Int) : Int := ns.foldl (fun p n => p * (2 ^ (w * n).toNat - 1)) 1

theorem prodZ_snoc (w : Int) (l : List Int) (n : Int) : prodZ w (l ++ [n]) = prodZ w l * (2 ^ (w * n).toNat - 1) := by
  unfold prodZ; rw [List.foldl_append]; rfl
theorem pow1_bits {m : Int} (hb2 : m ≤ 64) : Builtin.Int.intBits (2 ^ m.toNat - 1) ≤ 65 := by
  refine intBits_le_iff.mpr ?_
  have h : (2 : Nat) ^ m.toNat ≤ 2 ^ 64 := Nat.pow_le_pow_right (by decide) (by omega)
  have h1 : 0 < (2 : Nat) ^ m.toNat := Nat.pow_pos (by decide)
  have e : ((2 : Int) ^ m.toNat) = (((2 : Nat) ^ m.toNat : Nat) : Int) := by simp
  rw [e]
  generalize (2 : Nat) ^ m.toNat = x at h h1
  omega
theorem prodZ_bits {w : Int} (h0 : 0 ≤ w) (h1 : w ≤ 8) : ∀ (l : List Int) (p : Int) (b : Nat), (∀ n ∈ l, 1 ≤ n ∧ n ≤ 8) → Builtin.Int.intBits p ≤ b → Builtin.Int.intBits (l.foldl (fun p n => p * (2 ^ (w * n).toNat - 1)) p) ≤ b + 65 * l.length := by
  intro l
  induction l with
  | nil => intro p b _ h; exact h
  | cons n l ih =>
    intro p b hl h
    have hn := hl n (.head _)
    have hb2 : w * n ≤ 64 := Int.le_trans (Int.mul_le_mul h1 hn.2 (by omega) (by omega)) (by omega)
    have := ih (p * (2 ^ (w * n).toNat - 1)) (b + 65) (fun x hx => hl x (.tail _ hx)) (intBits_mul_le h (pow1_bits hb2))
    rw [List.foldl_cons, List.length_cons]
    omega
theorem mulOk_prod {w : Int} {l : List Int} {m : Int} (h : ∀ n ∈ l, 1 ≤ n ∧ n ≤ 8) (h0 : 5 ≤ w) (h1 : w ≤ 8) (hl : l.length ≤ 8) (hb2 : m ≤ 64) : IntMulOk (prodZ w l) (2 ^ m.toNat - 1) :=
  IntMulOk.of_le (prodZ_bits (by omega) h1 l 1 1 h (by decide)) (pow1_bits hb2) (by omega)
theorem product_list (w : World) (a : Addr) (vs : List Value) (ns : List Int) (y : Int) (t : Tok) (h0 : 5 ≤ y) (h1 : y ≤ 8) (hn : ∀ n ∈ ns, 1 ≤ n ∧ n ≤ 8) (hn2 : ns.length ≤ 8) :
    Fn w 186 [.ref a, .int y t] 2 20 (fun h => h.IsList a vs.toArray ∧ IntsAre vs ns) (fun h v h' => ∃ t', v = .int (prodZ y ns) t') := by
  intro dp un fr gd s R g hd hu hpre hret
  obtain ⟨hl, hi⟩ := hpre
  (refine' enterH (binds := [(Str.ofString "sizes", .ref a), (Str.ofString "width", .int y t)]) [] ?k0 ?ki ?k6 ?kd ?k7 ?k8 ?k9 ?kB ?_ ?c2 ?c3 ?c4 ?c5; (case k0 => assumption); (case ki => exact List.forall_mem_nil _); (case k6 => exact fn_at (by assumption) (by k_is)); (case kd => with_unfolding_all exact rfl); (case k7 => exact codeRec_of (G.k (by assumption)) (by k_is)); (case k8 => exact Nat.lt_of_le_of_lt (Nat.le_add_right _ _) hd); (case k9 => first | exact BindsTo.of_eq rfl | exact binds_K (G.k (by assumption)) rfl (by k_is) rfl rfl rfl); (case c5 => decide); (case kB => exact locs rfl); (case c2 => exact rfl); (case c3 => exact rfl); (case c4 => exact rfl); k_whole; intro L' h' vw lo mean mg mb F' N' l0 X' T'; clear l0; (try dsimp only [List.map_nil, hideAll] at *))
  iterate 5 (first | (k_unfold; (try dsimp only)) | walk1 | (dsimp only; walk1))
  refine forI ?_ (by intro _; rfl)
  (first | (k_unfold; (try dsimp only)) | walk1 | (dsimp only; walk1))
  refine iterList (by assumption) (by assumption) (hl.at fun o e => (by assumption : Fr _ _ _ _).keep _ _ e) ?_
  intro I o h₁ ho hI F N
  refine loopI (Iter.list (items := vs.toArray) rfl) (fun k m nx => ∃ t₁ t₂, m (Str.ofString "product") = some (.int (prodZ y (ns.take k)) t₁) ∧ m (Str.ofString "width") = some (.int y t₂) ∧ nx = []) F ho N (by simp) ⟨_, _, rfl, rfl, rfl⟩ ?_ ?_ ?_
  · intro k m' nx h _ F N
    exact hl.at fun o e => F.keep _ _ e
  · rintro k v m₁ nx h tk o hk hv hio ⟨t₁, t₂, e1, e2, rfl⟩ hoff F N
    obtain ⟨n, t₃, rfl, hn3⟩ : ∃ n t₃, v = .int n t₃ ∧ ns[k]? = some n := by
      obtain ⟨n, t, rfl, hn⟩ := hi.at k v (by simpa using hv)
      exact ⟨n, t, rfl, hn⟩
    have F' := frKnow F [(Str.ofString "product", _), (Str.ofString "width", _)] ⟨e1, e2, trivial⟩
    clear F
    refine wpAny_assign_Name ?_
    iterate 12 (first | (k_unfold; (try dsimp only)) | walk1 | (dsimp only; walk1))
    (first | (k_unfold; (try dsimp only)) | walk1 | (dsimp only; walk1))
    have hb := hn n (List.mem_of_getElem? hn3)
    have hb1 : 0 ≤ y * n := Int.mul_nonneg (by omega) (by omega)
    have hb2 : y * n ≤ 64 := Int.le_trans (Int.mul_le_mul (by omega : y ≤ 8) (by omega : n ≤ 8) (by omega) (by omega)) (by omega)
    refine pow_int_small hb1 (by omega) (by decide) ?_
    iterate 2 (first | (k_unfold; (try dsimp only)) | walk1 | (dsimp only; walk1))
    refine mul_int ?_ (mulOk_prod (fun n hn' => hn n (List.mem_of_mem_take hn')) h0 h1 (by rw [List.length_take]; omega) hb2)
    iterate 2 (first | (k_unfold; (try dsimp only)) | walk1 | (dsimp only; walk1))
    dsimp only [UnrPost]
    refine UnrEnd.intro (by assumption) (by assumption) [] (by intro p hp; exact hp) (by intro p hp; cases hp) ?_
    rw [take_succ_of hn3, prodZ_snoc]
    exact ⟨_, _, rfl, rfl, rfl⟩
  · rintro m₁ nx h tk ⟨t₁, t₂, e1, e2, rfl⟩ F N
    have F' := frKnow F [(Str.ofString "product", _)] ⟨e1, trivial⟩
    clear F
    (repeat' (first | (k_unfold; (try dsimp only)) | walk1 | (dsimp only; walk1)))
    rw [show vs.toArray.size = ns.length by simp [hi.length], List.take_length]
    exact hret _ _ _ (Fr.keep (by assumption)) ⟨_, rfl⟩
end Mine
end
section
open PySem PySem.W PySem.Spec PySem.Calls PyProof.Rows
namespace Mine
set_option maxRecDepth 100000
set_option maxHeartbeats 8000000
theorem fill1 : (PySem.Challenge.rw_sn0080_01.row.prog = PySem.Challenge.rw_sn0080_01.row.prog) ∧ (Mine.K0 = Mine.K0) := by k_fill; exact ⟨rfl, rfl⟩


theorem totals_fn (w : World) (a : Addr) (vs : List Value) (ns : List Int) (hn : ns.length ≤ 63) : Fn w 148 [.ref a] 2 20 (fun h => h.IsList a vs.toArray ∧ IntsAre vs ns)
    (fun h v h' => ∃ ts, FreshInts h v h' ts ∧ ts.length = 4 ∧ ∀ x ∈ ts, 0 ≤ x ∧ x ≤ 100000) := by
  intro dp un fr gd s R g hd hu hpre hret
  obtain ⟨hl, hi⟩ := hpre
  (refine' enterH (binds := [(Str.ofString "script", .ref a)]) [] ?k0 ?ki ?k6 ?kd ?k7 ?k8 ?k9 ?kB ?_ ?c2 ?c3 ?c4 ?c5; (case k0 => assumption); (case ki => exact List.forall_mem_nil _); (case k6 => exact fn_at (by assumption) (by k_is)); (case kd => with_unfolding_all exact rfl); (case k7 => exact codeRec_of (G.k (by assumption)) (by k_is)); (case k8 => exact Nat.lt_of_le_of_lt (Nat.le_add_right _ _) hd); (case k9 => first | exact BindsTo.of_eq rfl | exact binds_K (G.k (by assumption)) rfl (by k_is) rfl rfl rfl); (case c5 => decide); (case kB => exact locs rfl); (case c2 => exact rfl); (case c3 => exact rfl); (case c4 => exact rfl); k_whole; intro L' h' vw lo mean mg mb F' N' l0 X' T'; clear l0; (try dsimp only [List.map_nil, hideAll] at *))
  iterate 16 (first | (k_unfold; (try dsimp only)) | walk1 | (dsimp only; walk1))
  refine forI ?_ (by intro _; rfl)
  iterate 13 (first | (k_unfold; (try dsimp only)) | walk1 | (dsimp only; walk1))
  rename IntsAre _ (List.take 20 ns) => hI2
  rename News _ _ _ _ => N
  rename Fr _ _ _ _ => F
  rename_i l h1 l1 h2 D ws h3 hC hL hlt
  refine call_enum F N ⟨_, (N _ (.head _)).1, rfl, _, rfl⟩ ?_
  intro e it oi h₁ ho hei hlt2 hle hli F₁ N₁
  have hl2 : @LT.lt Nat _ l it ∧ @LT.lt Nat _ l e := hlt2 _ (.tail _ (.head _))
  refine wpAny_pyIter_enum (N₁ _ (.head _)).1 ?_
  refine loopEnum (items := ws.toArray) rfl rfl rfl rfl (fun k m nx => ∃ vs ts n, m (Str.ofString "totals") = some (.ref l) ∧ nx = [(D, W.listOf ws.toArray 0), (l, W.listOf vs.toArray n)] ∧ IntsAre vs ts ∧ ts.length = 4 ∧ ∀ x ∈ ts, 0 ≤ x ∧ x ≤ 10 + 420 * k) F₁ ho N₁ ?_ hei hle hli ?_ ?_ ?_ ?_
  · intro p hp
    have := hlt2 p hp
    exact ⟨Nat.ne_of_lt this.2, Nat.ne_of_lt this.1⟩
  · exact ⟨_, [0, 0, 3, 4], 0, rfl, rfl, .cons _ _ (.cons _ _ (.cons _ _ (.cons _ _ .nil))), rfl, by intro x hx; simp at hx; omega⟩
  · rintro k m' nx h ⟨vs, ts, n, -, rfl, -⟩ F N
    exact ⟨_, (N _ (.head _)).1, rfl, 0, rfl⟩
  · rintro k v m₁ nx h tk t oi hv ho ⟨vs, ts, n, e1, rfl, hI, h4, hb⟩ hoff F N
    obtain ⟨x, t₃, rfl, hx⟩ : ∃ n t₃, v = .int n t₃ ∧ (ns.take 20)[k]? = some n := by
      obtain ⟨n, t, rfl, hn⟩ := hI2.at k v (by simpa using hv)
      exact ⟨n, t, rfl, hn⟩
    have hoff' : ∀ o o' : Obj, ∀ p ∈ [(D, o), (l, o')], p.1 ≠ e ∧ p.1 ≠ it := by
      intro o o' p hp
      rcases List.mem_cons.mp hp with rfl | hp
      · exact ⟨hle, hli⟩
      · rcases List.mem_cons.mp hp with rfl | hp
        · exact ⟨Nat.ne_of_lt hl2.2, Nat.ne_of_lt hl2.1⟩
        · cases hp
    have F' := frKnow F [(Str.ofString "totals", _)] ⟨e1, trivial⟩
    iterate 13 (first | (k_unfold; (try dsimp only)) | walk1 | (dsimp only; walk1))
    (first | (k_unfold; (try dsimp only)) | walk1 | (dsimp only; walk1))
    dsimp only
    iterate 2 (first | (k_unfold; (try dsimp only)) | walk1 | (dsimp only; walk1))
    rename IntsAre (List.set _ _ _) _ => hi'
    rename News _ _ _ _ => N'
    rename Fr _ _ _ _ => F'
    refine ⟨rfl, _, _, _, _, rfl, F', N', hoff' _ _, ⟨_, _, _, rfl, rfl, hi', (List.length_set ..).trans h4, ?_⟩⟩
    intro y hy
    have hk20 : k < 20 := by
      have := (List.getElem?_eq_some_iff.mp hx).1
      rw [List.length_take] at this
      omega
    rcases List.mem_or_eq_of_mem_set hy with hy | rfl
    · have := hb y hy
      omega
    · have hm : ((k : Int).fmod 4).toNat < ts.length := by
        have := Int.fmod_nonneg_of_pos (k : Int) (show (0 : Int) < 4 by decide)
        have := Int.fmod_lt_of_pos (k : Int) (show (0 : Int) < 4 by decide)
        omega
      have h1 := hb _ (List.getElem_mem hm)
      rw [List.getD_eq_getElem?_getD, List.getElem?_eq_getElem hm]
      have h2 := Int.fmod_nonneg_of_pos x (show (0 : Int) < 420 by decide)
      have h3 := Int.fmod_lt_of_pos x (show (0 : Int) < 420 by decide)
      simp only [Option.getD_some]
      omega
  · rintro m₁ nx h tk ⟨vs, ts, n, e1, rfl, hI, h4, hb⟩ F N
    have F' := frKnow F [(Str.ofString "totals", _)] ⟨e1, trivial⟩
    clear F
    (repeat' (first | (k_unfold; (try dsimp only)) | walk1 | (dsimp only; walk1)))
    refine hret _ _ _ (Fr.keep (by assumption)) ⟨ts, ⟨l, vs, n, rfl, (N _ (.tail _ (.head _))).2.2, (N _ (.tail _ (.head _))).1, hI⟩, h4, fun x hx => ?_⟩
    have := hb x hx
    rw [List.size_toArray, hI2.length, List.length_take] at this
    omega
end Mine
end
section
open PySem PySem.W PySem.Spec PySem.Calls PyProof.Rows
namespace Mine
set_option maxRecDepth 100000
set_option maxHeartbeats 8000000
theorem fill : (PySem.Challenge.rw_sn0080_01.row.prog = PySem.Challenge.rw_sn0080_01.row.prog) ∧ (Mine.K0 = Mine.K0) := by k_fill; exact ⟨rfl, rfl⟩

local macro_rules | `(tactic| walk_at "eval Name") => `(tactic| ((first | (with_reducible show wpAny _ _ (eval (Expr.Name (Str.ofString "a_digits") _) (envX _ _ _ _ _ (_ :: _))) _ _ _) | (with_reducible show wpAny _ _ (eval (Expr.Name (Str.ofString "n") _) (envX _ _ _ _ _ (_ :: _))) _ _ _) | (with_reducible show wpAny _ _ (eval (Expr.Name (Str.ofString "inner") _) (envX _ _ _ _ _ (_ :: _))) _ _ _)); k_dflt (refine' nameX_F ?N ?c ?m ?d ?_ ?a ?b; (case a => kernel_rfl); (case b => kernel_rfl); (case N => assumption); (case c => rfl); (case m => k_mem); (case d => assumption))))
local macro_rules | `(tactic| walk_at "callWith ref") => `(tactic| k_dflt (refine' callWith_F ?k1 ?_; (case k1 => exact FnAt.of (by assumption) (by k_mem))))

/-- a call has changed one object of the ledger -/
theorem changed {h₀ h h' : Heap} {L D : Addr} {m : Str → Option Value} {o o' : Obj} {news : List (Addr × Obj)} (F : Fr h₀ L h m) (N : News h₀ L h ((D, o) :: news)) (hD : ∀ p ∈ news, p.1 ≠ D) (k : ∀ b x, b ≠ D → h.get? b = some x → h'.get? b = some x) (e : h'.get? D = some o') :
    Fr h₀ L h' m ∧ News h₀ L h' ((D, o') :: news) := by
  have z := (N _ (.head _)).2
  refine ⟨⟨F.ns.at' fun o q => k _ o z.1.symm q, fun b x q => k b x (fun r => by rw [r, z.2] at q; cases q) (F.keep b x q), F.above⟩, fun p hp => ?_⟩
  rcases List.mem_cons.mp hp with rfl | hp
  · exact ⟨e, z⟩
  · exact ⟨k _ _ (hD p hp) (N p (.tail _ hp)).1, (N p (.tail _ hp)).2⟩
theorem G.under {w : World} {h₀ h : Heap} {L : Addr} {m : Str → Option Value} (g : G w h₀) (F : Fr h₀ L h m) (l : List Addr) (hl : ∀ a ∈ l, h₀.get? a = none) : G w (hideAll h l) :=
  g.keeps fun b o e => hideAll_get l (F.keep b o e) fun q => by rw [hl b q] at e; cases e

theorem mem5 {P : Addr × Obj → Prop} {a b c d e : Addr × Obj} (ha : P a) (hb : P b) (hc : P c) (hd : P d) (he : P e) : ∀ p ∈ [a, b, c, d, e], P p := by
  intro p hp
  simp only [List.mem_cons, List.not_mem_nil, or_false] at hp
  rcases hp with rfl | rfl | rfl | rfl | rfl <;> assumption

/-- what stood when a def was entered, and was not changed, still stands -/
theorem keep_of {s h : Heap} {L b D : Addr} {m : Str → Option Value} {o x y : Obj} {hid : List (Addr × Obj)} (F : Fr (hideAll s (((D, x) :: hid).map (·.1))) L h m) (N : News (hideAll s (((D, x) :: hid).map (·.1))) L h ((D, y) :: hid)) (hs : ∀ p ∈ (D, x) :: hid, s.get? p.1 = some p.2) (hb : b ≠ D) (q : s.get? b = some o) : h.get? b = some o := by
  by_cases hm : b ∈ hid.map (·.1)
  · obtain ⟨p, hp, rfl⟩ := List.mem_map.mp hm
    rw [hs p (.tail _ hp)] at q
    cases q
    exact (N p (.tail _ hp)).1
  · refine F.keep b o (hideAll_get _ q fun hm' => ?_)
    rcases List.mem_cons.mp hm' with e | e
    · exact hb e
    · exact hm e
theorem stays_under {h₀ h : Heap} {L : Addr} {m : Str → Option Value} {news : List (Addr × Obj)} (F : Fr h₀ L h m) (N : News h₀ L h news) : h₀.StaysIn (hideAll h (news.map (·.1))) :=
  fun b o e => hideAll_get _ (F.keep b o e) fun q => by
    obtain ⟨p, hp, rfl⟩ := List.mem_map.mp q
    rw [(N p hp).2.2] at e; cases e
theorem digs_join {ds : List Int} {n lo a b x : Nat} (h : lo + (a + b) ≤ ds.length) :
    List.take (lo + a) (List.take lo ds ++ digs n a (x % 2 ^ (a * n)) ++ List.drop (lo + a) ds) ++ digs n b (x / 2 ^ (a * n)) ++ List.drop (lo + (a + b)) (List.take lo ds ++ digs n a (x % 2 ^ (a * n)) ++ List.drop (lo + a) ds) = List.take lo ds ++ digs n (a + b) x ++ List.drop (lo + (a + b)) ds := by
  have l1 : (List.take lo ds ++ digs n a (x % 2 ^ (a * n))).length = lo + a := by rw [List.length_append, List.length_take, digs_length, Nat.min_eq_left (by omega)]
  rw [List.take_left' l1, List.drop_append, l1, List.drop_eq_nil_of_le (by rw [l1]; omega), List.drop_drop, digs_add, Nat.mul_comm n a, List.nil_append, show lo + a + (lo + (a + b) - (lo + a)) = lo + (a + b) by omega]
  simp only [List.append_assoc]

theorem inner1 (w : World) (F cN cI cD D : Addr) (qual : Str) (doc pm ct : Value) (c' : Addr) (n : Nat) (tn : Tok) (oN oI oD : Obj)
    (hN : oN.data = .cell (some (.int (n : Int) tn))) (hI : oI.data = .cell (some (.ref F))) (hD : oD.data = .cell (some (.ref D))) (hn2 : n ≤ 1000) (hne : @Ne Nat F D ∧ @Ne Nat cN D ∧ @Ne Nat cI D ∧ @Ne Nat cD D) :
    ∀ (k : Nat) (x lo : Nat) (t t2 t3 : Tok) (dp un : Nat) (fr : Option (List Env)) (gd : Option (List Code)) (s : Shared) (R : Result → Shared → Prop) (vs : List Value) (ds : List Int) (e : Nat),
      1 ≤ k → k ≤ 200 → x < 2 ^ (n * k) → lo + k ≤ ds.length → ds.length ≤ 1000 → dp + k < recursionLimit → un + 10 * k < cLine → G w (hideAll s.heap [D, F, cN, cI, cD]) →
      s.heap.get? F = some (fnMade (dName (dSub (stm 5) 1)) qual (dArgs (dSub (stm 5) 1)) (dBody (dSub (stm 5) 1)) (dScope (dSub (stm 5) 1)) [(Str.ofString "n", cN), (Str.ofString "inner", cI), (Str.ofString "a_digits", cD)] doc pm c' ct) →
      (hideAll s.heap [D, F, cN, cI, cD]).CodeRec (.ref c') qual → s.heap.get? D = some (W.listOf vs.toArray e) → s.heap.get? cN = some oN → s.heap.get? cI = some oI → s.heap.get? cD = some oD → IntsAre vs ds →
      (∀ h' tk' vs' e', (∀ b o, b ≠ D → s.heap.get? b = some o → h'.get? b = some o) → h'.get? D = some (W.listOf vs'.toArray e') → IntsAre vs' (ds.take lo ++ digs n k x ++ ds.drop (lo + k)) → R (.ok (.ret .none)) { s with heap := h', toks := tk' }) →
      codeAny (model prog w) (AR dp un fr gd) (.call (.ref F) ⟨[.int (x : Int) t, .int (lo : Int) t2, .int ((lo + k : Nat) : Int) t3], []⟩) R s := by
  intro k
  induction k using Nat.strongRecOn with
  | ind k ih =>
  intro x lo t t2 t3 dp un fr gd s R vs ds e hk1 hk2 hx hlo hds hd hu g hF hcr hDs hNs hIs hCs hvs hret
  refine' enterH (binds := [(Str.ofString "x", .int (x : Int) t), (Str.ofString "L", .int (lo : Int) t2), (Str.ofString "R", .int ((lo + k : Nat) : Int) t3)]) [(D, W.listOf vs.toArray e), (F, fnMade (dName (dSub (stm 5) 1)) qual (dArgs (dSub (stm 5) 1)) (dBody (dSub (stm 5) 1)) (dScope (dSub (stm 5) 1)) [(Str.ofString "n", cN), (Str.ofString "inner", cI), (Str.ofString "a_digits", cD)] doc pm c' ct), (cN, oN), (cI, oI), (cD, oD)] g ?ki hF rfl ?k7 ?k8 ?k9 ?kB ?_ ?c2 ?c3 ?c4 ?c5
  (case ki => exact mem5 (P := fun p => s.heap.get? p.1 = some p.2) hDs hF hNs hIs hCs)
  (case k7 => exact hcr.keeps fun b o e => of_hideAll _ e)
  (case k8 => exact Nat.lt_of_le_of_lt (Nat.le_add_right _ _) hd)
  (case k9 => exact BindsTo.of_eq rfl)
  (case c5 => decide)
  (case kB => exact locs rfl); (case c2 => exact rfl); (case c3 => exact rfl); (case c4 => exact rfl)
  intro L' h' vw lo' mean mg mb F' N' l0 X' T'
  k_lt l0
  obtain ⟨hne0, hne1, hne2, hne3⟩ := hne
  by_cases h1 : k = 1
  · subst h1
    iterate 10 (first | (k_unfold; (try dsimp only)) | walk1 | (dsimp only; walk1))
    rw [if_pos (by simp)]
    iterate 8 (first | (k_unfold; (try dsimp only)) | walk1 | (dsimp only; walk1))
    (first | (k_unfold; (try dsimp only)) | walk1 | (dsimp only; walk1))
    dsimp only
    rename IntsAre (List.set _ _ _) _ => hi'
    rename News _ _ _ _ => N'
    rename Fr _ _ _ _ => F'
    refine hret _ _ _ _ (fun b o hb q => ?_) (N' _ (.head _)).1 ?_
    · exact keep_of F' N' (mem5 (P := fun p => s.heap.get? p.1 = some p.2) hDs hF hNs hIs hCs) hb q
    · rw [digs_one _ _ (by simpa using hx)]
      have e : List.set ds (lo : Int).toNat (x : Int) = List.take lo ds ++ [(x : Int)] ++ List.drop (lo + 1) ds := by
        rw [List.set_eq_take_append_cons_drop, if_pos (by simp; omega)]
        simp
      rw [← e]
      exact hi'
  · iterate 10 (first | (k_unfold; (try dsimp only)) | walk1 | (dsimp only; walk1))
    rw [if_neg (by simp; omega)]
    iterate 11 (first | (k_unfold; (try dsimp only)) | walk1 | (dsimp only; walk1))
    rw [show ((lo : Int) + ((lo + k : Nat) : Int)).fdiv (2 ^ Int.toNat 1) = ((lo + k / 2 : Nat) : Int) by rw [show (lo : Int) + ((lo + k : Nat) : Int) = ((lo + (lo + k) : Nat) : Int) by push_cast; rfl, show (2 : Int) ^ Int.toNat 1 = 2 ^ 1 from rfl, fdiv_pow]; congr 1; omega]
    (first | (k_unfold; (try dsimp only)) | walk1 | (dsimp only; walk1))
    iterate 9 (first | (k_unfold; (try dsimp only)) | walk1 | (dsimp only; walk1))
    rw [show (((lo + k / 2 : Nat) : Int) - (lo : Int)) * (n : Int) = ((k / 2 * n : Nat) : Int) by push_cast; congr 1; omega]
    (first | (k_unfold; (try dsimp only)) | walk1 | (dsimp only; walk1))
    iterate 6 (first | (k_unfold; (try dsimp only)) | walk1 | (dsimp only; walk1))
    rw [show (x : Int).fdiv (2 ^ Int.toNat ((k / 2 * n : Nat) : Int)) = ((x / 2 ^ (k / 2 * n) : Nat) : Int) by rw [Int.toNat_natCast, fdiv_pow]]
    (first | (k_unfold; (try dsimp only)) | walk1 | (dsimp only; walk1))
    iterate 7 (first | (k_unfold; (try dsimp only)) | walk1 | (dsimp only; walk1))
    refine lshift_int (Int.natCast_nonneg _) ?_ ?_
    · have b1 : Builtin.Int.intBits ((x / 2 ^ (k / 2 * n) : Nat) : Int) ≤ n * k := intBits_le_iff.mpr (Nat.lt_of_le_of_lt (Nat.div_le_self _ _) hx)
      have b2 : n * k ≤ 1000 * 200 := Nat.mul_le_mul hn2 hk2
      have b3 : k / 2 * n ≤ 100 * 1000 := Nat.mul_le_mul (by omega) hn2
      omega
    (first | (k_unfold; (try dsimp only)) | walk1 | (dsimp only; walk1))
    rw [show ((x / 2 ^ (k / 2 * n) : Nat) : Int) * 2 ^ Int.toNat ((k / 2 * n : Nat) : Int) = ((x / 2 ^ (k / 2 * n) : Nat) : Int) * 2 ^ (k / 2 * n) from rfl, xor_high]
    (first | (k_unfold; (try dsimp only)) | walk1 | (dsimp only; walk1))
    iterate 14 (first | (k_unfold; (try dsimp only)) | walk1 | (dsimp only; walk1))
    rename News _ _ _ _ => N'
    rename Fr _ _ _ _ => F'
    have st := stays_under F' N'
    refine wpAny_call (ih (k / 2) (by omega) (x % 2 ^ (k / 2 * n)) (lo) _ _ _ _ _ _ _ _ _ vs ds e (by omega) (by omega) (by rw [Nat.mul_comm n]; exact Nat.mod_lt _ (Nat.pow_pos (by decide))) (by omega) (by omega) (by simp only [recursionLimit] at *; omega) (by show un + 3 + 10 * _ < _; omega) (g.keeps st) (N' _ (.tail _ (.head _))).1 (hcr.keeps st) (N' _ (.head _)).1 (N' _ (.tail _ (.tail _ (.head _)))).1 (N' _ (.tail _ (.tail _ (.tail _ (.head _))))).1 (N' _ (.tail _ (.tail _ (.tail _ (.tail _ (.head _)))))).1 ?_ ?_)
    · exact hvs
    intro h₂ tk₂ vs₂ e₂ k₂ D₂ hi₂
    have ch := changed F' N' (by intro p hp; simp only [List.mem_cons, List.not_mem_nil, or_false] at hp; rcases hp with rfl | rfl | rfl | rfl <;> assumption) k₂ D₂
    clear F' N' st
    obtain ⟨F', N'⟩ := ch
    dsimp only
    iterate 14 (first | (k_unfold; (try dsimp only)) | walk1 | (dsimp only; walk1))
    rename News _ _ _ _ => N'
    rename Fr _ _ _ _ => F'
    rw [show lo + k = lo + k / 2 + (k - k / 2) by omega]
    have st := stays_under F' N'
    refine wpAny_call (ih (k - k / 2) (by omega) (x / 2 ^ (k / 2 * n)) (lo + k / 2) _ _ _ _ _ _ _ _ _ vs₂ (List.take lo ds ++ digs n (k / 2) (x % 2 ^ (k / 2 * n)) ++ List.drop (lo + k / 2) ds) e₂ (by omega) (by omega) ?_ (by rw [List.length_append, List.length_append, List.length_take, List.length_drop, digs_length]; omega) (by rw [List.length_append, List.length_append, List.length_take, List.length_drop, digs_length]; omega) (by simp only [recursionLimit] at *; omega) (by show un + 3 + 10 * _ < _; omega) (g.keeps st) (N' _ (.tail _ (.head _))).1 (hcr.keeps st) (N' _ (.head _)).1 (N' _ (.tail _ (.tail _ (.head _)))).1 (N' _ (.tail _ (.tail _ (.tail _ (.head _))))).1 (N' _ (.tail _ (.tail _ (.tail _ (.tail _ (.head _)))))).1 ?_ ?_)
    · refine Nat.div_lt_of_lt_mul ?_
      rw [← Nat.pow_add, Nat.mul_comm (k / 2) n, ← Nat.mul_add, show k / 2 + (k - k / 2) = k by omega]
      exact hx
    · exact hi₂
    intro h₃ tk₃ vs₃ e₃ k₃ D₃ hi₃
    have ch := changed F' N' (by intro p hp; simp only [List.mem_cons, List.not_mem_nil, or_false] at hp; rcases hp with rfl | rfl | rfl | rfl <;> assumption) k₃ D₃
    rw [Nat.add_assoc, digs_join (by omega), show k / 2 + (k - k / 2) = k by omega] at hi₃
    dsimp only
    skip
    (first | (k_unfold; (try dsimp only)) | walk1 | (dsimp only; walk1))
    exact hret _ _ _ _ (fun b o hb q => keep_of ch.1 ch.2 (mem5 (P := fun p => s.heap.get? p.1 = some p.2) hDs hF hNs hIs hCs) hb q) D₃ hi₃
end Mine
end
section
open PySem PySem.W PySem.Spec PySem.Calls PyProof.Rows
namespace Mine
set_option maxRecDepth 100000

/-- a code table: not yet used, or holding one code object -/
def TOk (P : Addr) (pos : Pos) (qual : Str) (ts : List (Addr × Obj)) : Prop :=
  ts = [(P, tabObj #[])] ∨ ∃ c' oc vs t, ts = [(P, tabObj #[rawInt pos.line, rawInt pos.col, .ref c']), (c', oc)] ∧ oc.data = .fields vs ∧ vs[1]? = some (.str qual t) ∧ c' ≠ P
theorem TOk.head {P : Addr} {pos : Pos} {qual : Str} {ts : List (Addr × Obj)} (h : TOk P pos qual ts) : ∃ ps, (P, tabObj ps) ∈ ts := by
  rcases h with rfl | ⟨c', oc, vs, t, rfl, _⟩
  · exact ⟨_, .head _⟩
  · exact ⟨_, .head _⟩

/-- ledgers after a table has grown -/
def Grew (h h' : Heap) (ts ts' : List (Addr × Obj)) : Prop := ∀ p ∈ ts', h'.get? p.1 = some p.2 ∧ (p.1 ∈ ts.map (·.1) ∨ h.get? p.1 = none)

/-- a contract of a def that may fill code tables -/
def FnT (w : World) (f : Addr) (vals : List Value) (d u : Nat) (TS : List (Addr × Obj) → Prop) (Pre : Heap → Prop) (Post : Heap → Value → Heap → Prop) : Prop :=
  ∀ (ts : List (Addr × Obj)) (dp un : Nat) (fr : Option (List Env)) (gd : Option (List Code)) (s : Shared) (R : Result → Shared → Prop),
    TS ts → (∀ p ∈ ts, s.heap.get? p.1 = some p.2) → G w (hideAll s.heap (ts.map (·.1))) → dp + d < recursionLimit → un + u < cLine → Pre s.heap →
    (∀ v h' tk' ts', TS ts' → Grew s.heap h' ts ts' → (∀ b o, b ∉ ts.map (·.1) → s.heap.get? b = some o → h'.get? b = some o) → Post s.heap v h' → R (.ok (.ret v)) { s with heap := h', toks := tk' }) →
    codeAny (model prog w) (AR dp un fr gd) (.call (.ref f) ⟨vals, []⟩) R s

section
variable {w : World} {A : Around} {E : Value → Shared → Prop} {s : Shared} {h₀ : Heap} {L : Addr} {m : Str → Option Value} {ts rest : List (Addr × Obj)}
theorem grown {h h' : Heap} {ts' : List (Addr × Obj)} (F : Fr h₀ L h m) (N : News h₀ L h (rest ++ ts)) (hne : ∀ p ∈ rest, p.1 ∉ ts.map (·.1)) (gr : Grew h h' ts ts') (k : ∀ b o, b ∉ ts.map (·.1) → h.get? b = some o → h'.get? b = some o) :
    Fr h₀ L h' m ∧ News h₀ L h' (rest ++ ts') ∧ ∀ p ∈ rest, p.1 ∉ ts'.map (·.1) := by
  have hid : ∀ b, b ∈ ts.map (·.1) → b ≠ L ∧ h₀.get? b = none := fun b hb => by
    obtain ⟨p, hp, rfl⟩ := List.mem_map.mp hb
    exact (N p (List.mem_append_right _ hp)).2
  have hL := F.ns
  refine ⟨⟨F.ns.at' fun o q => k _ o (fun z => (hid _ z).1 rfl) q, fun b x q => k b x (fun z => by rw [(hid _ z).2] at q; cases q) (F.keep b x q), F.above⟩, fun p hp => ?_, fun p hp z => ?_⟩
  · rcases List.mem_append.mp hp with hp | hp
    · exact ⟨k _ _ (hne p hp) (N p (List.mem_append_left _ hp)).1, (N p (List.mem_append_left _ hp)).2⟩
    · refine ⟨(gr p hp).1, ?_⟩
      rcases (gr p hp).2 with z | z
      · exact hid _ z
      · refine ⟨fun q => ?_, ?_⟩
        · obtain ⟨oL, _, _, hL, _⟩ := F.ns
          rw [← q, z] at hL; cases hL
        · cases q : h₀.get? p.1 with
          | none => rfl
          | some o => rw [F.keep _ _ q] at z; cases z
  · obtain ⟨q, hq, e⟩ := List.mem_map.mp z
    rcases (gr q hq).2 with z | z
    · rw [e] at z; exact hne p hp z
    · rw [e, (N p (List.mem_append_left _ hp)).1] at z; cases z
theorem grew_of {s h' : Heap} {L : Addr} {ts' news : List (Addr × Obj)} (N : News (hideAll s (ts.map (·.1))) L h' news) (hs : ∀ p ∈ ts', p ∈ news) : Grew s h' ts ts' := fun p hp => by
  have z := N p (hs p hp)
  refine ⟨z.1, ?_⟩
  by_cases q : p.1 ∈ ts.map (·.1)
  · exact .inl q
  · refine .inr ?_
    cases e : s.get? p.1 with
    | none => rfl
    | some o => rw [hideAll_get _ e q] at z; cases z.2.2
theorem FnT.use {f : Addr} {vals : List Value} {d u : Nat} {TS : List (Addr × Obj) → Prop} {Pre : Heap → Prop} {Post : Heap → Value → Heap → Prop} {Q : Value → Shared → Prop}
    (C : FnT w f vals d u TS Pre Post) (g : G w h₀) (F : Fr h₀ L s.heap m) (N : News h₀ L s.heap (rest ++ ts)) (hne : ∀ p ∈ rest, p.1 ∉ ts.map (·.1)) (hT : TS ts) (hh : A.handled = none) (hd : A.depth + d < recursionLimit) (hu : A.units + u < cLine) (hpre : Pre s.heap)
    (h : ∀ v h' tk' ts', TS ts' → Fr h₀ L h' m → News h₀ L h' (rest ++ ts') → (∀ p ∈ rest, p.1 ∉ ts'.map (·.1)) → Post s.heap v h' → Q v { s with heap := h', toks := tk' }) :
    wpAny (model prog w) A (call (.ref f) vals) Q E s := by
  obtain ⟨hd', dp, fr, gd, un⟩ := A
  cases hh
  refine wpAny_call ?_
  have N' : News h₀ L s.heap ts := fun p hp => N p (List.mem_append_right _ hp)
  exact C ts dp un fr gd s _ hT (fun p hp => (N' p hp).1) (g.keeps (stays_under F N')) hd hu hpre fun v h' tk' ts' hT' gr k hp =>
    have z := grown F N hne gr k
    h v h' tk' ts' hT' z.1 z.2.1 z.2.2 hp
end

theorem updF_at {P : Addr} {o : Obj} : ∀ {rest tl : List (Addr × Obj)}, (∀ p ∈ rest, p.1 ≠ P) → (∀ p ∈ tl, p.1 ≠ P) → UpdF P o (rest ++ (P, o) :: tl) (fun o' => rest ++ (P, o') :: tl)
  | [], _, _, h => .head h
  | p :: r, _, h, h2 => .tail (h p (.head _)) (updF_at (fun q hq => h q (.tail _ hq)) h2)

section
variable {M : Model} {A : Around} {E : Value → Shared → Prop} {s : Shared} {h₀ : Heap} {L a c P : Addr} {m mg mb : Str → Option Value} {cn : Str} {cs : Scope} {ccd : Value} {cl : List (Str × Addr)} {rest ts : List (Addr × Obj)}
  {p : Program} {loose : List Str} {mean : ExcName → Option Value} {name qual : Str} {params : Arguments} {body : List Stmt} {scope : Scope} {pos : Pos} {firstLine : Nat} {clos : List (Str × Addr)}
/-- a def in a def, its table in either state -/
theorem nestT {Q : Value → Shared → Prop} (F : Fr h₀ L s.heap m) (N : News h₀ L s.heap (rest ++ ts)) (T : Top p loose mean mg mb h₀) (C : CodeHd h₀ c P) (hcd : ccd = .ref c) (hne : ∀ p ∈ rest, p.1 ∉ ts.map (·.1)) (hT : TOk P pos qual ts)
    (hcl : closureFor scope (envX cn cs L a ccd cl) = pure clos)
    (h : ∀ f c' oc vs t ts' ctv doc h' tk, Fr h₀ L h' m →
      News h₀ L h' ((f, fnMade name qual params body scope clos doc ((mg "__name__").getD .none) c' ctv) :: (rest ++ ts')) →
      (c', oc) ∈ ts' → oc.data = .fields vs → vs[1]? = some (.str qual t) → TOk P pos qual ts' → (∀ q ∈ rest, q.1 < f) → (∀ q ∈ ts', q.1 < f) → (∀ q ∈ rest, q.1 ∉ ts'.map (·.1)) → Q (.ref f) { s with heap := h', toks := tk }) :
    wpAny M A (makeFunction name qual params (.stmts body) scope (envX cn cs L a ccd cl) [] [] [] pos firstLine) Q E s := by
  rcases hT with rfl | ⟨c₁, o₁, vs₁, t₁, rfl, d1, d2, d3⟩
  · refine nest_K F N T C hcd (updF_at (tl := []) (fun q hq e => hne q hq (by simp [e])) (by simp)) trivial rfl hcl fun f c' oc vs t ctv doc h' tk F' N' e1 e2 l1 l2 => ?_
    have hP := l1 (P, _) (List.mem_append_right _ (.head _))
    refine h f c' oc vs t [(P, tabObj #[rawInt pos.line, rawInt pos.col, .ref c']), (c', oc)] ctv doc h' tk F' (fun q hq => ?_) (.tail _ (.head _)) e1 e2 (.inr ⟨c', oc, vs, t, rfl, e1, e2, Nat.ne_of_gt hP⟩) ?_ ?_ ?_
    · refine N' q ?_
      simp only [List.mem_cons, List.mem_append, List.not_mem_nil, or_false] at hq ⊢
      rcases hq with q | q | q | q <;> simp [q]
    · exact fun q hq => Nat.lt_trans (l1 q (List.mem_append_left _ hq)) l2
    · intro q hq
      rcases List.mem_cons.mp hq with rfl | hq
      · exact Nat.lt_trans hP l2
      · cases List.mem_singleton.mp hq
        exact l2
    · intro q hq z
      rcases List.mem_cons.mp z with z | z
      · exact hne q hq (z ▸ .head _)
      · exact absurd (l1 q (List.mem_append_left _ hq)) (Nat.not_lt.mpr (Nat.le_of_eq (List.mem_singleton.mp z).symm))
  · refine nestHit_K (c' := c₁) F N T C hcd (ps := #[rawInt pos.line, rawInt pos.col, .ref c₁]) (List.mem_append_right _ (.head _)) (by simp [TriplesOk, rawInt]) (by simp [codeAmong, rawInt]) hcl fun f ctv doc h' tk F' N' l1 => ?_
    exact h f c₁ o₁ vs₁ t₁ _ ctv doc h' tk F' N' (.tail _ (.head _)) d1 d2 (.inr ⟨c₁, o₁, vs₁, t₁, rfl, d1, d2, d3⟩) (fun q hq => l1 q (List.mem_append_left _ hq)) (fun q hq => l1 q (List.mem_append_right _ hq)) hne
end
end Mine
end
section
open PySem PySem.W PySem.Spec PySem.Calls PyProof.Rows
namespace Mine
set_option maxRecDepth 100000
set_option maxHeartbeats 8000000
theorem fill2 : (PySem.Challenge.rw_sn0080_01.row.prog = PySem.Challenge.rw_sn0080_01.row.prog) ∧ (Mine.K0 = Mine.K0) := by k_fill; exact ⟨rfl, rfl⟩

def dPos : Stmt → Pos
  | .FunctionDef _ _ _ _ _ _ _ _ _ p => p
  | _ => default
def cnt (n x : Nat) : Nat := (Builtin.Int.intBits (x : Int) + n - 1) / n
def T37 : List (Addr × Obj) → Prop := TOk 37 (dPos (dSub (stm 5) 1)) (Str.ofString "_int2digits.<locals>.inner")

theorem cnt_bits {n x : Nat} (h1 : 1 ≤ n) : x < 2 ^ (n * cnt n x) := by
  refine (intBits_le_iff (x := (x : Int))).mp ?_
  have := Nat.lt_mul_div_succ (Builtin.Int.intBits (x : Int) + n - 1) h1
  rw [Nat.mul_add, Nat.mul_one] at this
  show _ ≤ n * ((Builtin.Int.intBits (x : Int) + n - 1) / n)
  omega
theorem stays5 {h₀ h : Heap} {L a b c d e : Addr} {m : Str → Option Value} {oa ob oc od oe : Obj} (F : Fr h₀ L h m) (N : News h₀ L h [(a, oa), (b, ob), (c, oc), (d, od), (e, oe)]) : h₀.StaysIn (hideAll h [a, b, c, d, e]) := by
  have z := stays_under F N
  simpa only [List.map_cons, List.map_nil] using z
theorem not_mem5 {x a b c d e : Addr} (h1 : x ≠ a) (h2 : x ≠ b) (h3 : x ≠ c) (h4 : x ≠ d) (h5 : x ≠ e) : x ∉ [a, b, c, d, e] := by
  simp only [List.mem_cons, List.not_mem_nil, or_false, not_or]
  exact ⟨h1, h2, h3, h4, h5⟩
theorem above {L a : Addr} {ts : List (Addr × Obj)} (l0 : ∀ p ∈ ts, p.1 < L) (h : L ≤ a) : a ∉ ts.map (·.1) := fun q => by
  obtain ⟨p, hp, e⟩ := List.mem_map.mp q
  exact absurd (l0 p hp) (Nat.not_lt.mpr (e ▸ h))
theorem mem4 {P : Addr × Obj → Prop} {a b c d : Addr × Obj} (ha : P a) (hb : P b) (hc : P c) (hd : P d) : ∀ p ∈ [a, b, c, d], P p := by
  intro p hp
  simp only [List.mem_cons, List.not_mem_nil, or_false] at hp
  rcases hp with rfl | rfl | rfl | rfl <;> assumption

theorem i2d_fn (w : World) (x n : Nat) (t t' : Tok) (h1 : 1 ≤ n) (h2 : n ≤ 1000) (h3 : cnt n x ≤ 100) :
    FnT w 42 [.int (x : Int) t, .int (n : Int) t'] 120 1200 T37 (fun _ => True) (fun h v h' => FreshInts h v h' (digs n (cnt n x) x)) := by
  intro ts dp un fr gd s R hT hts g hd hu _ hret
  refine' enterHC (binds := [(Str.ofString "a", .int (x : Int) t), (Str.ofString "n", .int (n : Int) t')]) ts g hts ?k6 ?kd ?k7 ?k8 ?k9 ?kB ?kD ?_ ?c2 ?c3 ?c4
  (case k6 => exact of_hideAll _ (fn_at g (by k_is)))
  (case kd => with_unfolding_all exact rfl)
  (case k7 => exact (codeRec_of g.k (by k_is)).keeps fun b o e => of_hideAll _ e)
  (case k8 => exact Nat.lt_of_le_of_lt (Nat.le_add_right _ _) hd)
  (case k9 => exact BindsTo.of_eq rfl)
  (case kB => exact rfl); (case kD => decide +kernel); (case c2 => exact rfl); (case c3 => exact rfl); (case c4 => exact rfl)
  intro L' h' tk' cells' vw lo mean mg mb F' N' Y' l0 X' T'
  k_cells Y'
  (try simp only [List.cons_append, List.nil_append] at N')
  iterate 22 (first | (k_unfold; (try dsimp only)) | walk1 | (dsimp only; walk1))
  have hb : ((Builtin.Int.intBits (x : Int) : Int) + (n : Int) - 1).fdiv (n : Int) = ((cnt n x : Nat) : Int) := by
    rw [cnt, Int.fdiv_eq_ediv_of_nonneg _ (Int.natCast_nonneg _), Int.natCast_ediv]
    congr 1
    omega
  rw [hb]
  have hb1 : 0 ≤ ((cnt n x : Nat) : Int) ∧ ((cnt n x : Nat) : Int) ≤ 1000 := by omega
  obtain ⟨hb1, hb2⟩ := hb1
  (first | (k_unfold; (try dsimp only)) | walk1 | (dsimp only; walk1))
  rename_i o1 o2 o3 d1 d2 d3 l hA FA NA lA D hB F N hi n1 s1 e1 e2 e3 l1
  have N₁ : News (hideAll s.heap (ts.map (·.1))) L' hB ((D, W.listOf (List.replicate ((cnt n x : Nat) : Int).toNat [Value.int 0 tk']).flatten.toArray 0) :: (L' + 1 + 1 + 1, o1) :: (L' + 1 + 1, o2) :: (L' + 1, o3) :: ts) := fun p hp => N p (by
    rcases List.mem_cons.mp hp with rfl | hp
    · exact .head _
    · exact .tail _ (.tail _ hp))
  have lD := l1.2
  have h0D : s.heap.get? D = none := by
    have z := (N _ (.head _)).2.2
    cases q : s.heap.get? D with
    | none => rfl
    | some o => rw [hideAll_get _ q (above l0 (Nat.le_of_lt (Nat.lt_trans (Nat.lt_succ_self _) lD.2.2.1)))] at z; cases z
  have hlen : (List.replicate ((cnt n x : Nat) : Int).toNat [(0 : Int)]).flatten.length = cnt n x := by simp
  clear N NA FA lA l1 s1 e1 e2 e3 hb hb1 hb2
  refine storeX_C (c := L' + 1 + 1) F N₁ rfl (.tail (Nat.ne_of_gt lD.2.1) (.tail (Nat.ne_of_gt (Nat.lt_succ_self _)) (.head fun p hp => ?_))) d2 ?_ (by kernel_rfl) (by kernel_rfl)
  · rcases List.mem_cons.mp hp with rfl | hp
    · exact Nat.ne_of_lt (Nat.lt_succ_self _)
    · exact Nat.ne_of_lt (Nat.lt_trans (l0 p hp) (Nat.lt_trans (Nat.lt_succ_self _) (Nat.lt_succ_self _)))
  clear F N₁ d2
  intro hC o2' F N d2
  iterate 2 (first | (k_unfold; (try dsimp only)) | walk1 | (dsimp only; walk1))
  refine' nestDef_K ?d0 ?k0 ?a0 ?_
  (case d0 => exact rfl); (case k0 => exact rfl); (case a0 => exact rfl)
  refine nestT (P := 37) (c := 41) (rest := (D, W.listOf (List.replicate ((cnt n x : Nat) : Int).toNat [Value.int 0 tk']).flatten.toArray 0) :: (L' + 1 + 1 + 1, o1) :: (L' + 1 + 1, o2') :: (L' + 1, o3) :: []) (qual := Str.ofString "_int2digits.<locals>.inner") F N T' (codeHd_of_K X' (by kernel_rfl)) rfl ?_ hT rfl ?_
  · refine mem4 (P := fun p => p.1 ∉ ts.map (·.1)) ?_ ?_ ?_ ?_
    · exact above l0 (Nat.le_of_lt (Nat.lt_trans (Nat.lt_succ_self _) lD.2.2.1))
    · exact above l0 (Nat.le_add_right L' 3)
    · exact above l0 (Nat.le_add_right L' 2)
    · exact above l0 (Nat.le_add_right L' 1)
  intro f c' oc vs tt ts' ctv doc h₂ tk₂ F₂ N₂ hc' dc1 dc2 hT' lf lf' hne
  skip
  have lf3 : L' + 1 + 1 + 1 < f := lf _ (.tail _ (.head _))
  have lfD : D < f := lf _ (.head _)
  refine storeX_C (c := L' + 1 + 1 + 1) F₂ N₂ rfl (.tail (Nat.ne_of_gt lf3) (.tail (Nat.ne_of_gt lD.1) (.head fun p hp => ?_))) d1 ?_ (by kernel_rfl) (by kernel_rfl)
  · rcases List.mem_cons.mp hp with rfl | hp
    · exact Nat.ne_of_lt (Nat.lt_succ_self _)
    · rcases List.mem_cons.mp hp with rfl | hp
      · exact Nat.ne_of_lt (Nat.lt_trans (Nat.lt_succ_self _) (Nat.lt_succ_self _))
      · exact fun e => hne _ (.tail _ (.head _)) (List.mem_map.mpr ⟨p, hp, e⟩)
  clear F N F₂ N₂ d1
  intro hD o1' F N d1
  have g' : ∀ {h₄ : Heap} {vs' : List Value} {e' : Nat} {news : List (Addr × Obj)} {m' : Str → Option Value}, News (hideAll s.heap (ts.map (·.1))) L' h₄ news → Fr (hideAll s.heap (ts.map (·.1))) L' h₄ m' → (D, W.listOf vs'.toArray e') ∈ news → (∀ p ∈ ts', p ∈ news) →
      IntsAre vs' (digs n (cnt n x) x) → ∀ tk, R (.ok (.ret (.ref D))) { s with heap := h₄, toks := tk } := fun {h₄ vs' e' news m'} N F hm ht hi tk => hret _ _ _ ts' hT' (grew_of N ht) (fun b o hb q => F.keep b o (hideAll_get _ q hb)) ⟨D, vs', e', rfl, h0D, (N _ hm).1, hi⟩
  iterate 5 (first | (k_unfold; (try dsimp only)) | walk1 | (dsimp only; walk1))
  by_cases hx : x = 0
  · subst hx
    rw [if_neg (by simp)]
    iterate 2 (first | (k_unfold; (try dsimp only)) | walk1 | (dsimp only; walk1))
    (first | (k_unfold; (try dsimp only)) | walk1 | (dsimp only; walk1))
    (first | (k_unfold; (try dsimp only)) | walk1 | (dsimp only; walk1))
    dsimp only
    refine g' N F (.tail _ (.head _)) (fun p hp => .tail _ (.tail _ (.tail _ (.tail _ (.tail _ hp))))) ?_ _
    have e : cnt n 0 = 0 := Nat.div_eq_of_lt (by show 0 + n - 1 < n; omega)
    rw [e] at hi ⊢
    exact hi
  · rw [if_pos (by simp; omega)]
    iterate 4 (first | (k_unfold; (try dsimp only)) | walk1 | (dsimp only; walk1))
    refine' callWith_F ?k1 ?_
    (case k1 => exact FnAt.of N (.head _))
    iterate 15 (first | (k_unfold; (try dsimp only)) | walk1 | (dsimp only; walk1))
    have hx2 := cnt_bits h1 (x := x)
    have hc1 : 1 ≤ cnt n x := by
      refine Nat.pos_of_ne_zero fun e => hx ?_
      rw [e, Nat.mul_zero] at hx2
      exact Nat.lt_one_iff.mp hx2
    rw [hlen, show ((cnt n x : Nat) : Int) = ((0 + cnt n x : Nat) : Int) by rw [Nat.zero_add]]
    have d3' : o3.data = .cell (some (.int (n : Int) t')) := d3.trans (by kernel_rfl)
    have hF : hD.get? f = some (fnMade (dName (dSub (stm 5) 1)) (Str.ofString "_int2digits.<locals>.inner") (dArgs (dSub (stm 5) 1)) (dBody (dSub (stm 5) 1)) (dScope (dSub (stm 5) 1)) [(Str.ofString "n", L' + 1), (Str.ofString "inner", L' + 1 + 1 + 1), (Str.ofString "a_digits", L' + 1 + 1)] doc ((mg (Str.ofString "__name__")).getD .none) c' ctv) := (N _ (.head _)).1.trans (by kernel_rfl)
    have N5 : News (hideAll s.heap (ts.map (·.1))) L' hD [(D, _), (f, _), (L' + 1, o3), (L' + 1 + 1 + 1, o1'), (L' + 1 + 1, o2')] := mem5 (N _ (.tail _ (.head _))) ⟨hF, (N _ (.head _)).2⟩ (N _ (.tail _ (.tail _ (.tail _ (.tail _ (.head _)))))) (N _ (.tail _ (.tail _ (.head _)))) (N _ (.tail _ (.tail _ (.tail _ (.head _)))))
    have cr : (hideAll hD [D, f, L' + 1, L' + 1 + 1 + 1, L' + 1 + 1]).CodeRec (.ref c') (Str.ofString "_int2digits.<locals>.inner") :=
      ⟨c', oc, vs, tt, rfl, hideAll_get _ (N _ (.tail _ (.tail _ (.tail _ (.tail _ (.tail _ hc')))))).1 (not_mem5 (fun e => hne _ (.head _) (List.mem_map.mpr ⟨_, hc', e⟩)) (Nat.ne_of_lt (lf' _ hc')) (fun e => hne _ (.tail _ (.tail _ (.tail _ (.head _)))) (List.mem_map.mpr ⟨_, hc', e⟩)) (fun e => hne _ (.tail _ (.head _)) (List.mem_map.mpr ⟨_, hc', e⟩)) (fun e => hne _ (.tail _ (.tail _ (.head _))) (List.mem_map.mpr ⟨_, hc', e⟩))), dc1, dc2⟩
    have hm := inner1 w f (L' + 1) (L' + 1 + 1 + 1) (L' + 1 + 1) D (Str.ofString "_int2digits.<locals>.inner") doc ((mg (Str.ofString "__name__")).getD .none) ctv c' n t' o3 o1' o2' d3' d1 d2 h2 ⟨Nat.ne_of_gt lfD, Nat.ne_of_lt lD.2.2.1, Nat.ne_of_lt lD.1, Nat.ne_of_lt lD.2.1⟩ (cnt n x) x 0
    have st := stays5 F N5
    refine wpAny_call (hm t tk₂ _ _ _ _ _ _ _ _ ((List.replicate ((cnt n x : Nat) : Int).toNat [(0 : Int)]).flatten) _ hc1 (Nat.le_trans h3 (by decide)) hx2 ?_ ?_ ?_ ?_ (g.keeps st) (N5 _ (.tail _ (.head _))).1 cr (N5 _ (.head _)).1 (N5 _ (.tail _ (.tail _ (.head _)))).1 (N5 _ (.tail _ (.tail _ (.tail _ (.head _))))).1 (N5 _ (.tail _ (.tail _ (.tail _ (.tail _ (.head _)))))).1 hi ?_)
    · rw [hlen, Nat.zero_add]; exact Nat.le_refl _
    · rw [hlen]; exact Nat.le_trans h3 (by decide)
    · have hd' : dp + 120 < 1000 := hd
      show dp + 1 + _ < 1000
      omega
    · show un + 3 + 10 * _ < _; omega
    intro h₄ tk₄ vs₄ e₄ k₄ D₄ hi₄
    have N' : News (hideAll s.heap (ts.map (·.1))) L' hD ((D, _) :: (L' + 1 + 1, o2') :: ts') := fun p hp => by
      rcases List.mem_cons.mp hp with rfl | hp
      · exact N _ (.tail _ (.head _))
      · rcases List.mem_cons.mp hp with rfl | hp
        · exact N _ (.tail _ (.tail _ (.tail _ (.head _))))
        · exact N _ (.tail _ (.tail _ (.tail _ (.tail _ (.tail _ hp)))))
    have ch := changed F N' (fun p hp => by
      rcases List.mem_cons.mp hp with rfl | hp
      · exact Nat.ne_of_lt lD.2.1
      · exact fun e => hne _ (.head _) (List.mem_map.mpr ⟨p, hp, e⟩)) k₄ D₄
    clear F N
    obtain ⟨F, N⟩ := ch
    dsimp only
    iterate 2 (first | (k_unfold; (try dsimp only)) | walk1 | (dsimp only; walk1))
    (first | (k_unfold; (try dsimp only)) | walk1 | (dsimp only; walk1))
    (first | (k_unfold; (try dsimp only)) | walk1 | (dsimp only; walk1))
    dsimp only
    refine g' N F (.head _) (fun p hp => .tail _ (.tail _ hp)) ?_ _
    rw [List.take_zero, List.nil_append, List.drop_eq_nil_of_le (by rw [hlen, Nat.zero_add]; exact Nat.le_refl _), List.append_nil] at hi₄
    exact hi₄
end Mine
end
section
open PySem PySem.W PySem.Spec PySem.Calls PyProof.Rows
namespace Mine
set_option maxRecDepth 100000
set_option maxHeartbeats 8000000
theorem fill3 : (PySem.Challenge.rw_sn0080_01.row.prog = PySem.Challenge.rw_sn0080_01.row.prog) ∧ (Mine.K0 = Mine.K0) := by k_fill; exact ⟨rfl, rfl⟩
local macro_rules | `(tactic| walk_at "eval Name") => `(tactic| ((first | (with_reducible show wpAny _ _ (eval (Expr.Name (Str.ofString "digits") _) (envX _ _ _ _ _ (_ :: _))) _ _ _) | (with_reducible show wpAny _ _ (eval (Expr.Name (Str.ofString "n") _) (envX _ _ _ _ _ (_ :: _))) _ _ _) | (with_reducible show wpAny _ _ (eval (Expr.Name (Str.ofString "inner") _) (envX _ _ _ _ _ (_ :: _))) _ _ _)); k_dflt (refine' nameX_F ?N ?c ?m ?d ?_ ?a ?b; (case a => kernel_rfl); (case b => kernel_rfl); (case N => assumption); (case c => rfl); (case m => k_mem); (case d => assumption))))
local macro_rules | `(tactic| walk_at "callWith ref") => `(tactic| k_dflt (refine' callWith_F ?k1 ?_; (case k1 => exact FnAt.of (by assumption) (by k_mem))))

/-- the number that figures make, least first -/
def hor (n : Nat) : List Int → Int
  | [] => 0
  | d :: r => d + 2 ^ n * hor n r
theorem hor_app (n : Nat) : ∀ (a b : List Int), hor n (a ++ b) = hor n a + 2 ^ (n * a.length) * hor n b
  | [], b => by simp [hor]
  | d :: r, b => by
    rw [List.cons_append, hor, hor, hor_app n r b, List.length_cons, Nat.mul_succ, Nat.add_comm, Int.pow_add, Int.mul_add, Int.add_assoc, Int.mul_assoc]
theorem hor_rng {n : Nat} : ∀ {a : List Int}, (∀ d ∈ a, 0 ≤ d ∧ d < 2 ^ n) → 0 ≤ hor n a ∧ hor n a < 2 ^ (n * a.length)
  | [], _ => by simp [hor]
  | d :: r, h => by
    have ⟨i1, i2⟩ := hor_rng (n := n) (a := r) fun x hx => h x (.tail _ hx)
    have ⟨j1, j2⟩ := h d (.head _)
    have p : (0 : Int) < 2 ^ n := Int.lt_of_le_of_lt j1 j2
    have k1 := Int.mul_nonneg (Int.le_of_lt p) i1
    have k2 := Int.mul_le_mul_of_nonneg_left (Int.add_one_le_of_lt i2) (Int.le_of_lt p)
    rw [List.length_cons, Nat.mul_succ, Nat.add_comm, Int.pow_add, hor]
    rw [Int.mul_add, Int.mul_one] at k2
    omega
def seg (ds : List Int) (lo k : Nat) : List Int := (ds.drop lo).take k
theorem seg_len {ds : List Int} {lo k : Nat} (h : lo + k ≤ ds.length) : (seg ds lo k).length = k := by
  rw [seg, List.length_take, List.length_drop, Nat.min_eq_left (by omega)]
theorem seg_add {ds : List Int} {lo a b : Nat} : seg ds lo (a + b) = seg ds lo a ++ seg ds (lo + a) b := by
  rw [seg, seg, seg, List.take_add, List.drop_drop]
theorem seg_one {ds : List Int} {lo : Nat} (h : lo < ds.length) : seg ds lo 1 = [ds.getD lo 0] := by
  rw [seg, List.drop_eq_getElem_cons h, List.getD_eq_getElem?_getD, List.getElem?_eq_getElem h]
  rfl
theorem hor_join {n : Nat} {ds : List Int} {lo a b : Nat} (h : lo + (a + b) ≤ ds.length) : hor n (seg ds (lo + a) b) * 2 ^ (a * n) + hor n (seg ds lo a) = hor n (seg ds lo (a + b)) := by
  rw [seg_add, hor_app, seg_len (by omega), Nat.mul_comm a n, Int.mul_comm, Int.add_comm]
theorem seg_bits {n : Nat} {ds : List Int} {lo k : Nat} (hb : ∀ d ∈ ds, 0 ≤ d ∧ d < 2 ^ n) (h : lo + k ≤ ds.length) : Builtin.Int.intBits (hor n (seg ds lo k)) ≤ n * k := by
  have ⟨i1, i2⟩ := hor_rng (n := n) (a := seg ds lo k) fun d hd => hb d (List.mem_of_mem_drop (List.mem_of_mem_take hd))
  rw [seg_len h] at i2
  refine intBits_le_iff.mpr ?_
  have e : (2 : Int) ^ (n * k) = ((2 ^ (n * k) : Nat) : Int) := by push_cast; rfl
  rw [e] at i2
  omega
theorem mid_eq (lo k : Nat) : ((lo : Int) + ((lo + k : Nat) : Int)).fdiv (2 ^ Int.toNat 1) = ((lo + k / 2 : Nat) : Int) := by
  rw [show (lo : Int) + ((lo + k : Nat) : Int) = ((lo + (lo + k) : Nat) : Int) by push_cast; rfl, show (2 : Int) ^ Int.toNat 1 = 2 ^ 1 from rfl, fdiv_pow]
  congr 1
  omega
theorem shift_eq (lo k n : Nat) : (((lo + k / 2 : Nat) : Int) - (lo : Int)) * (n : Int) = ((k / 2 * n : Nat) : Int) := by
  push_cast
  congr 1
  omega
theorem shift_room {b n k : Nat} (h : b ≤ n * (k - k / 2)) (hn : n ≤ 1000) (hk : k ≤ 200) : (b : Int) + ((k / 2 * n : Nat) : Int) ≤ 2 ^ 27 := by
  have b2 : n * (k - k / 2) ≤ 1000 * 200 := Nat.mul_le_mul hn (by omega)
  have b3 : k / 2 * n ≤ 100 * 1000 := Nat.mul_le_mul (by omega) hn
  omega

theorem stays_of {s h : Heap} {L : Addr} {m : Str → Option Value} {hid : List (Addr × Obj)} (F : Fr (hideAll s (hid.map (·.1))) L h m) (N : News (hideAll s (hid.map (·.1))) L h hid) (hs : ∀ p ∈ hid, s.get? p.1 = some p.2) : s.StaysIn h := fun b o q => by
  by_cases hm : b ∈ hid.map (·.1)
  · obtain ⟨p, hp, rfl⟩ := List.mem_map.mp hm
    rw [hs p hp] at q
    cases q
    exact (N p hp).1
  · exact F.keep b o (hideAll_get _ q hm)
theorem hor_one {n : Nat} {ds : List Int} {lo : Nat} (h : lo < ds.length) : ds.getD (lo : Int).toNat 0 = hor n (seg ds lo 1) := by
  rw [seg_one h, hor, hor, Int.mul_zero, Int.add_zero, Int.toNat_natCast]

theorem inner2 (w : World) (F cN cI cD D : Addr) (qual : Str) (doc pm ct : Value) (c' : Addr) (n : Nat) (tn : Tok) (oN oI oD : Obj) (vs : List Value) (ds : List Int) (e : Nat)
    (hN : oN.data = .cell (some (.int (n : Int) tn))) (hI : oI.data = .cell (some (.ref F))) (hD : oD.data = .cell (some (.ref D))) (hn2 : n ≤ 1000) (hvs : IntsAre vs ds) (hb : ∀ d ∈ ds, 0 ≤ d ∧ d < 2 ^ n) (hds : ds.length ≤ 200) :
    ∀ (k : Nat) (lo : Nat) (t2 t3 : Tok) (dp un : Nat) (fr : Option (List Env)) (gd : Option (List Code)) (s : Shared) (R : Result → Shared → Prop),
      1 ≤ k → lo + k ≤ ds.length → dp + k < recursionLimit → un + 10 * k < cLine → G w (hideAll s.heap [D, F, cN, cI, cD]) →
      s.heap.get? F = some (fnMade (dName (dSub (stm 6) 0)) qual (dArgs (dSub (stm 6) 0)) (dBody (dSub (stm 6) 0)) (dScope (dSub (stm 6) 0)) [(Str.ofString "n", cN), (Str.ofString "inner", cI), (Str.ofString "digits", cD)] doc pm c' ct) →
      (hideAll s.heap [D, F, cN, cI, cD]).CodeRec (.ref c') qual → s.heap.get? D = some (W.listOf vs.toArray e) → s.heap.get? cN = some oN → s.heap.get? cI = some oI → s.heap.get? cD = some oD →
      (∀ h' tk' t', s.heap.StaysIn h' → R (.ok (.ret (.int (hor n (seg ds lo k)) t'))) { s with heap := h', toks := tk' }) →
      codeAny (model prog w) (AR dp un fr gd) (.call (.ref F) ⟨[.int (lo : Int) t2, .int ((lo + k : Nat) : Int) t3], []⟩) R s := by
  intro k
  induction k using Nat.strongRecOn with
  | ind k ih =>
  intro lo t2 t3 dp un fr gd s R hk1 hlo hd hu g hF hcr hDs hNs hIs hCs hret
  refine' enterH (binds := [(Str.ofString "L", .int (lo : Int) t2), (Str.ofString "R", .int ((lo + k : Nat) : Int) t3)]) [(D, W.listOf vs.toArray e), (F, fnMade (dName (dSub (stm 6) 0)) qual (dArgs (dSub (stm 6) 0)) (dBody (dSub (stm 6) 0)) (dScope (dSub (stm 6) 0)) [(Str.ofString "n", cN), (Str.ofString "inner", cI), (Str.ofString "digits", cD)] doc pm c' ct), (cN, oN), (cI, oI), (cD, oD)] g ?ki hF rfl ?k7 ?k8 ?k9 ?kB ?_ ?c2 ?c3 ?c4 ?c5
  (case ki => exact mem5 (P := fun p => s.heap.get? p.1 = some p.2) hDs hF hNs hIs hCs)
  (case k7 => exact hcr.keeps fun b o e => of_hideAll _ e)
  (case k8 => exact Nat.lt_of_le_of_lt (Nat.le_add_right _ _) hd)
  (case k9 => exact BindsTo.of_eq rfl)
  (case c5 => decide)
  (case kB => exact locs rfl); (case c2 => exact rfl); (case c3 => exact rfl); (case c4 => exact rfl)
  intro L' h' vw lo' mean mg mb F' N' l0 X' T'
  clear l0
  by_cases h1 : k = 1
  · subst h1
    iterate 10 (first | (k_unfold; (try dsimp only)) | walk1 | (dsimp only; walk1))
    rw [if_pos (by simp)]
    (iterate 7 (first | (k_unfold; (try dsimp only)) | walk1 | (dsimp only; walk1)); (try dsimp only))
    rename Fr _ _ _ _ => F'
    rename News _ _ _ _ => N'
    rw [hor_one (n := n) hlo]
    exact hret _ _ _ (stays_of F' N' (mem5 (P := fun p => s.heap.get? p.1 = some p.2) hDs hF hNs hIs hCs))
  · iterate 10 (first | (k_unfold; (try dsimp only)) | walk1 | (dsimp only; walk1))
    rw [if_neg (by simp; omega)]
    iterate 11 (first | (k_unfold; (try dsimp only)) | walk1 | (dsimp only; walk1))
    rw [mid_eq]
    (first | (k_unfold; (try dsimp only)) | walk1 | (dsimp only; walk1))
    iterate 9 (first | (k_unfold; (try dsimp only)) | walk1 | (dsimp only; walk1))
    rw [shift_eq]
    (first | (k_unfold; (try dsimp only)) | walk1 | (dsimp only; walk1))
    iterate 14 (first | (k_unfold; (try dsimp only)) | walk1 | (dsimp only; walk1))
    rw [show lo + k = lo + k / 2 + (k - k / 2) by omega]
    rename News _ _ _ _ => N'
    rename Fr _ _ _ _ => F'
    have st := stays_under F' N'
    refine wpAny_call (ih (k - k / 2) (by omega) (lo + k / 2) _ _ _ _ _ _ _ _ (by omega) (by omega) ?_ (by show un + 3 + 10 * _ < _; omega) (g.keeps st) (N' _ (.tail _ (.head _))).1 (hcr.keeps st) (N' _ (.head _)).1 (N' _ (.tail _ (.tail _ (.head _)))).1 (N' _ (.tail _ (.tail _ (.tail _ (.head _))))).1 (N' _ (.tail _ (.tail _ (.tail _ (.tail _ (.head _)))))).1 ?_)
    · show dp + 1 + _ < _; first | exact ltD hd (by decide) | omega
    intro h₂ tk₂ t₂ k₂
    dsimp only
    have F'' := frLater F' k₂
    have N'' := newsLater N' k₂
    clear F' N' st
    (first | (k_unfold; (try dsimp only)) | walk1 | (dsimp only; walk1))
    refine lshift_int (Int.natCast_nonneg _) (shift_room (seg_bits hb (by omega)) hn2 (by omega)) ?_
    iterate 10 (first | (k_unfold; (try dsimp only)) | walk1 | (dsimp only; walk1))
    rename News _ _ _ _ => N'
    rename Fr _ _ _ _ => F'
    have st := stays_under F' N'
    refine wpAny_call (ih (k / 2) (by omega) (lo) _ _ _ _ _ _ _ _ (by omega) (by omega) ?_ (by show un + 3 + 10 * _ < _; omega) (g.keeps st) (N' _ (.tail _ (.head _))).1 (hcr.keeps st) (N' _ (.head _)).1 (N' _ (.tail _ (.tail _ (.head _)))).1 (N' _ (.tail _ (.tail _ (.tail _ (.head _))))).1 (N' _ (.tail _ (.tail _ (.tail _ (.tail _ (.head _)))))).1 ?_)
    · show dp + 1 + _ < _; first | exact ltD hd (by decide) | omega
    intro h₃ tk₃ t₃ k₃
    dsimp only
    have F := frLater F' k₃
    have N := newsLater N' k₃
    clear F' N' st
    ((first | (k_unfold; (try dsimp only)) | walk1 | (dsimp only; walk1)); (try dsimp only))
    rw [Int.toNat_natCast, hor_join (by omega), show k / 2 + (k - k / 2) = k by omega]
    exact hret _ _ _ (stays_of F N (mem5 (P := fun p => s.heap.get? p.1 = some p.2) hDs hF hNs hIs hCs))
end Mine
end
section
open PySem PySem.W PySem.Spec PySem.Calls PyProof.Rows
namespace Mine
set_option maxRecDepth 100000
set_option maxHeartbeats 8000000
theorem fill4 : (PySem.Challenge.rw_sn0080_01.row.prog = PySem.Challenge.rw_sn0080_01.row.prog) ∧ (Mine.K0 = Mine.K0) := by k_fill; exact ⟨rfl, rfl⟩

def T44 : List (Addr × Obj) → Prop := TOk 44 (dPos (dSub (stm 6) 0)) (Str.ofString "_digits2int.<locals>.inner")

theorem TOk.notList {P D : Addr} {pos : Pos} {qual : Str} {ts : List (Addr × Obj)} {h : Heap} {vs : Array Value} {e : Nat} (hT : TOk P pos qual ts) (hs : ∀ p ∈ ts, h.get? p.1 = some p.2) (hD : h.get? D = some (W.listOf vs e)) : D ∉ ts.map (·.1) := fun q => by
  obtain ⟨p, hp, rfl⟩ := List.mem_map.mp q
  rw [hs p hp] at hD
  have z : p.2 = W.listOf vs e := Option.some.inj hD
  rcases hT with rfl | ⟨c', oc, vs, t, rfl, d, _, _⟩
  · cases List.mem_singleton.mp hp
    cases congrArg Obj.data z
  · rcases List.mem_cons.mp hp with rfl | hp
    · cases congrArg Obj.data z
    · cases List.mem_singleton.mp hp
      rw [show oc = _ from z] at d
      cases d

/-- a list of the caller's, and a code table -/
def LT (T : List (Addr × Obj) → Prop) (D : Addr) (o : Obj) (ts : List (Addr × Obj)) : Prop := ∃ ts₀, ts = (D, o) :: ts₀ ∧ T ts₀

theorem d2i_fn (w : World) (D n e : Nat) (t' : Tok) (vs : List Value) (ds : List Int) (h2 : n ≤ 1000) (h3 : ds.length ≤ 100) (hb : ∀ d ∈ ds, 0 ≤ d ∧ d < 2 ^ n) (hi : IntsAre vs ds) :
    FnT w 49 [.ref D, .int (n : Int) t'] 120 1200 (LT T44 D (W.listOf vs.toArray e)) (fun _ => True) (fun _ v _ => ∃ t, v = .int (hor n ds) t) := by
  intro ts dp un fr gd s R hT hts g hd hu _ hret
  obtain ⟨ts₀, rfl, hT⟩ := hT
  have hDt := hT.notList (fun p hp => hts p (.tail _ hp)) (hts _ (.head _))
  refine' enterHC (binds := [(Str.ofString "digits", .ref D), (Str.ofString "n", .int (n : Int) t')]) _ g hts ?k6 ?kd ?k7 ?k8 ?k9 ?kB ?kD ?_ ?c2 ?c3 ?c4
  (case k6 => exact of_hideAll _ (fn_at g (by k_is)))
  (case kd => with_unfolding_all exact rfl)
  (case k7 => exact (codeRec_of g.k (by k_is)).keeps fun b o e => of_hideAll _ e)
  (case k8 => exact Nat.lt_of_le_of_lt (Nat.le_add_right _ _) hd)
  (case k9 => exact BindsTo.of_eq rfl)
  (case kB => exact rfl); (case kD => decide +kernel); (case c2 => exact rfl); (case c3 => exact rfl); (case c4 => exact rfl)
  intro L' h' tk' cells' vw lo mean mg mb F N Y' l0 X' T'
  k_cells Y'
  (try simp only [List.cons_append, List.nil_append] at N)
  (first | (k_unfold; (try dsimp only)) | walk1 | (dsimp only; walk1))
  refine' nestDef_K ?d0 ?k0 ?a0 ?_
  (case d0 => exact rfl); (case k0 => exact rfl); (case a0 => exact rfl)
  rename_i o1 o2 o3 d1 d2 d3
  refine nestT (P := 44) (c := 48) (rest := (L' + 1 + 1 + 1, o1) :: (L' + 1 + 1, o2) :: (L' + 1, o3) :: (D, W.listOf vs.toArray e) :: []) (qual := Str.ofString "_digits2int.<locals>.inner") F N T' (codeHd_of_K X' (by kernel_rfl)) rfl ?_ hT rfl ?_
  · have l1 : ∀ p ∈ ts₀, p.1 < L' := fun p hp => l0 p (.tail _ hp)
    refine mem4 (P := fun p => p.1 ∉ ts₀.map (·.1)) ?_ ?_ ?_ hDt
    · exact above l1 (Nat.le_add_right L' 3)
    · exact above l1 (Nat.le_add_right L' 2)
    · exact above l1 (Nat.le_add_right L' 1)
  intro f c' oc vs' tt ts' ctv doc h₂ tk₂ F₂ N₂ hc' dc1 dc2 hT' lf lf' hne
  have lf3 : L' + 1 + 1 + 1 < f := lf _ (.head _)
  skip
  refine storeX_C (c := L' + 1 + 1 + 1) F₂ N₂ rfl (.tail (Nat.ne_of_gt lf3) (.head fun p hp => ?_)) d1 ?_ (by kernel_rfl) (by kernel_rfl)
  · rcases List.mem_cons.mp hp with rfl | hp
    · exact Nat.ne_of_lt (Nat.lt_succ_self _)
    · rcases List.mem_cons.mp hp with rfl | hp
      · exact Nat.ne_of_lt (Nat.lt_trans (Nat.lt_succ_self _) (Nat.lt_succ_self _))
      · rcases List.mem_cons.mp hp with rfl | hp
        · exact Nat.ne_of_lt (Nat.lt_of_lt_of_le (l0 _ (.head _)) (Nat.le_add_right L' 3))
        · exact fun e => hne _ (.head _) (List.mem_map.mpr ⟨p, hp, e⟩)
  clear F N F₂ N₂ d1
  intro hD o1' F N d1
  iterate 5 (first | (k_unfold; (try dsimp only)) | walk1 | (dsimp only; walk1))
  refine kgr_truthy (vs := vs) N (.tail _ (.tail _ (.tail _ (.tail _ (.head _))))) rfl rfl (by rw [hi.length]; exact Nat.lt_of_le_of_lt h3 (by decide)) ?_
  have fin : ∀ {h₄ : Heap} {news : List (Addr × Obj)} {m' : Str → Option Value} {t : Tok}, News (hideAll s.heap (((D, W.listOf vs.toArray e) :: ts₀).map (·.1))) L' h₄ news → Fr (hideAll s.heap (((D, W.listOf vs.toArray e) :: ts₀).map (·.1))) L' h₄ m' → (D, W.listOf vs.toArray e) ∈ news → (∀ p ∈ ts', p ∈ news) →
      ∀ tk, R (.ok (.ret (.int (hor n ds) t))) { s with heap := h₄, toks := tk } := fun {h₄ news m' t} N F hm ht tk => hret _ _ _ ((D, _) :: ts') ⟨ts', rfl, hT'⟩ (grew_of N (List.forall_mem_cons.mpr ⟨hm, ht⟩)) (fun b o hb q => F.keep b o (hideAll_get _ q hb)) ⟨t, rfl⟩
  by_cases hv : ds = []
  · have hv' : vs = [] := List.eq_nil_of_length_eq_zero (by rw [hi.length, hv]; rfl)
    rw [if_neg (by rw [hv']; decide)]
    (first | (k_unfold; (try dsimp only)) | walk1 | (dsimp only; walk1))
    dsimp only
    rw [show (0 : Int) = hor n ds by rw [hv]; rfl]
    exact fin N F (.tail _ (.tail _ (.tail _ (.tail _ (.head _))))) (fun p hp => .tail _ (.tail _ (.tail _ (.tail _ (.tail _ hp))))) _
  · have hl : 1 ≤ ds.length := List.length_pos_iff.mpr hv
    rw [if_pos (by rw [Bool.not_eq_true', List.isEmpty_eq_false_iff]; intro z; have := hi.length; rw [z] at this; exact absurd this (by show 0 ≠ _; omega))]
    iterate 2 (first | (k_unfold; (try dsimp only)) | walk1 | (dsimp only; walk1))
    refine' callWith_F ?k1 ?_
    (case k1 => exact FnAt.of N (.head _))
    iterate 9 (first | (k_unfold; (try dsimp only)) | walk1 | (dsimp only; walk1))
    refine kst_len N (.tail _ (.tail _ (.tail _ (.tail _ (.head _))))) hi.length (Int.lt_of_le_of_lt (Int.ofNat_le.mpr h3) (by decide)) ?_
    iterate 3 (first | (k_unfold; (try dsimp only)) | walk1 | (dsimp only; walk1))
    have hF : hD.get? f = some (fnMade (dName (dSub (stm 6) 0)) (Str.ofString "_digits2int.<locals>.inner") (dArgs (dSub (stm 6) 0)) (dBody (dSub (stm 6) 0)) (dScope (dSub (stm 6) 0)) [(Str.ofString "n", L' + 1 + 1), (Str.ofString "inner", L' + 1 + 1 + 1), (Str.ofString "digits", L' + 1)] doc ((mg (Str.ofString "__name__")).getD .none) c' ctv) := (N _ (.head _)).1.trans (by kernel_rfl)
    have N5 : News _ L' hD [(D, _), (f, _), (L' + 1 + 1, o2), (L' + 1 + 1 + 1, o1'), (L' + 1, o3)] := mem5 (N _ (.tail _ (.tail _ (.tail _ (.tail _ (.head _)))))) ⟨hF, (N _ (.head _)).2⟩ (N _ (.tail _ (.tail _ (.head _)))) (N _ (.tail _ (.head _))) (N _ (.tail _ (.tail _ (.tail _ (.head _)))))
    have cr : (hideAll hD [D, f, L' + 1 + 1, L' + 1 + 1 + 1, L' + 1]).CodeRec (.ref c') (Str.ofString "_digits2int.<locals>.inner") :=
      ⟨c', oc, vs', tt, rfl, hideAll_get _ (N _ (.tail _ (.tail _ (.tail _ (.tail _ (.tail _ hc')))))).1 (not_mem5 (fun e => hne _ (.tail _ (.tail _ (.tail _ (.head _)))) (List.mem_map.mpr ⟨_, hc', e⟩)) (Nat.ne_of_lt (lf' _ hc')) (fun e => hne _ (.tail _ (.head _)) (List.mem_map.mpr ⟨_, hc', e⟩)) (fun e => hne _ (.head _) (List.mem_map.mpr ⟨_, hc', e⟩)) (fun e => hne _ (.tail _ (.tail _ (.head _))) (List.mem_map.mpr ⟨_, hc', e⟩))), dc1, dc2⟩
    have st := stays5 F N5
    have hm := inner2 w f (L' + 1 + 1) (L' + 1 + 1 + 1) (L' + 1) D (Str.ofString "_digits2int.<locals>.inner") doc ((mg (Str.ofString "__name__")).getD .none) ctv c' n t' o2 o1' o3 vs ds e (d2.trans (by kernel_rfl)) d1 (d3.trans (by kernel_rfl)) h2 hi hb (Nat.le_trans h3 (by decide)) ds.length 0
    rw [show ((ds.length : Nat) : Int) = ((0 + ds.length : Nat) : Int) by rw [Nat.zero_add]]
    refine wpAny_call (hm _ _ _ _ _ _ _ _ hl (Nat.le_of_eq (Nat.zero_add _)) ?_ ?_ (g.keeps st) (N5 _ (.tail _ (.head _))).1 cr (N5 _ (.head _)).1 (N5 _ (.tail _ (.tail _ (.head _)))).1 (N5 _ (.tail _ (.tail _ (.tail _ (.head _))))).1 (N5 _ (.tail _ (.tail _ (.tail _ (.tail _ (.head _)))))).1 ?_)
    · show dp + 1 + _ < _; first | exact ltD hd (by decide) | omega
    · show un + 3 + 10 * _ < _; omega
    intro h₄ tk₄ t₄ k₄
    dsimp only
    have F' := frLater F k₄
    have N' := newsLater N k₄
    clear F N N5
    (skip; (try dsimp only))
    rw [show seg ds 0 ds.length = ds by simp [seg]]
    exact fin N' F' (.tail _ (.tail _ (.tail _ (.tail _ (.head _))))) (fun p hp => .tail _ (.tail _ (.tail _ (.tail _ (.tail _ hp))))) _
end Mine
end
section
open PySem PySem.W PySem.Spec PySem.Calls PyProof.Rows
namespace Mine
set_option maxRecDepth 100000
set_option maxHeartbeats 8000000
theorem fill5 : (PySem.Challenge.rw_sn0080_01.row.prog = PySem.Challenge.rw_sn0080_01.row.prog) ∧ (Mine.K0 = Mine.K0) := by k_fill; exact ⟨rfl, rfl⟩

def FreshTup (h : Heap) (v : Value) (h' : Heap) (vs : List Value) : Prop := ∃ a, v = .ref a ∧ h.get? a = none ∧ h'.get? a = some { cls := .type "tuple", data := .seq vs.toArray }

theorem div_fn (w : World) (x y n : Int) (t t2 t3 : Tok) (hy : y ≠ 0) (hy2 : y.natAbs.log2 < 9000) (hx : (Builtin.Int.intBits x : Int) - n ≤ 4000) :
    Fn w 28 [.int x t, .int y t2, .int n t3] 2 20 (fun _ => True) (fun h v h' => ∃ t t', FreshTup h v h' [.int (x.fdiv y) t, .int (x.fmod y) t']) := by
  intro dp un fr gd s R g hd hu _ hret
  (refine' enterH (binds := [(Str.ofString "a", .int x t), (Str.ofString "b", .int y t2), (Str.ofString "n", .int n t3)]) [] ?k0 ?ki ?k6 ?kd ?k7 ?k8 ?k9 ?kB ?_ ?c2 ?c3 ?c4 ?c5; (case k0 => assumption); (case ki => exact List.forall_mem_nil _); (case k6 => exact fn_at (by assumption) (by k_is)); (case kd => with_unfolding_all exact rfl); (case k7 => exact codeRec_of (G.k (by assumption)) (by k_is)); (case k8 => exact Nat.lt_of_le_of_lt (Nat.le_add_right _ _) hd); (case k9 => first | exact BindsTo.of_eq rfl | exact binds_K (G.k (by assumption)) rfl (by k_is) rfl rfl rfl); (case c5 => decide); (case kB => exact locs rfl); (case c2 => exact rfl); (case c3 => exact rfl); (case c4 => exact rfl); k_whole; intro L' h' vw lo mean mg mb F' N' l0 X' T'; clear l0; (try dsimp only [List.map_nil, hideAll] at *))
  iterate 26 (first | (k_unfold; (try dsimp only)) | walk1 | (dsimp only; walk1))
  rename Fr _ _ _ _ => F
  rename News _ _ _ _ => N
  refine divmod_N F N hy (fun h₁ F₁ N₁ => ?_) (.inl (PyProof.noPylong_of_log2 hy2))
  (skip; (try dsimp only))
  exact hret _ _ _ F₁.keep ⟨_, _, _, rfl, (N₁ _ (.head _)).2.2, (N₁ _ (.head _)).1⟩
end Mine
end
section
open PySem PySem.W PySem.Spec PySem.Calls PyProof.Rows
namespace Mine

theorem hor_digs (n : Nat) : ∀ (k x : Nat), x < 2 ^ (n * k) → hor n (digs n k x) = (x : Int)
  | 0, x, h => by
    rw [Nat.mul_zero] at h
    rw [Nat.lt_one_iff.mp h]
    rfl
  | k + 1, x, h => by
    rw [Nat.mul_succ, Nat.add_comm, Nat.pow_add] at h
    rw [digs, hor, hor_digs n k _ (Nat.div_lt_of_lt_mul h), show (2 : Int) ^ n = ((2 ^ n : Nat) : Int) by push_cast; rfl]
    rw [← Int.natCast_mul, ← Int.natCast_add, Nat.mod_add_div]
theorem digs_rng (n : Nat) : ∀ (k x : Nat), ∀ d ∈ digs n k x, 0 ≤ d ∧ d < 2 ^ n
  | 0, _, d, h => nomatch h
  | k + 1, x, d, h => by
    rcases List.mem_cons.mp h with rfl | h
    · refine ⟨Int.natCast_nonneg _, ?_⟩
      rw [show (2 : Int) ^ n = ((2 ^ n : Nat) : Int) by push_cast; rfl]
      exact Int.ofNat_lt.mpr (Nat.mod_lt _ (Nat.pow_pos (by decide)))
    · exact digs_rng n k _ d h

/-- one turn of the long division -/
def ldS (n : Nat) (b : Int) (p : List Int × Int) (d : Int) : List Int × Int := (p.1 ++ [(p.2 * 2 ^ n + d).fdiv b], (p.2 * 2 ^ n + d).fmod b)
def ld (n : Nat) (b : Int) (l : List Int) : List Int × Int := l.foldl (ldS n b) ([], 0)
theorem ld_snoc (n : Nat) (b : Int) (l : List Int) (d : Int) : ld n b (l ++ [d]) = ldS n b (ld n b l) d := by
  rw [ld, List.foldl_append]; rfl
theorem ldS_ok {n : Nat} {b r d : Int} (hb : 0 < b) (r0 : 0 ≤ r) (r1 : r < b) (d0 : 0 ≤ d) (d1 : d < 2 ^ n) :
    0 ≤ r * 2 ^ n + d ∧ r * 2 ^ n + d < b * 2 ^ n ∧ (0 ≤ (r * 2 ^ n + d).fdiv b ∧ (r * 2 ^ n + d).fdiv b < 2 ^ n) ∧ 0 ≤ (r * 2 ^ n + d).fmod b ∧ (r * 2 ^ n + d).fmod b < b := by
  have p : (0 : Int) < 2 ^ n := Int.lt_of_le_of_lt d0 d1
  have k0 := Int.mul_nonneg r0 (Int.le_of_lt p)
  have k1 := Int.mul_le_mul_of_nonneg_right (Int.add_one_le_of_lt r1) (Int.le_of_lt p)
  rw [Int.add_mul, Int.one_mul] at k1
  generalize hx : r * 2 ^ n + d = x at *
  have x0 : 0 ≤ x := by omega
  have x1 : x < b * 2 ^ n := by omega
  rw [Int.fdiv_eq_ediv_of_nonneg x (Int.le_of_lt hb), Int.fmod_eq_emod_of_nonneg x (Int.le_of_lt hb)]
  exact ⟨x0, x1, ⟨Int.ediv_nonneg x0 (Int.le_of_lt hb), Int.ediv_lt_of_lt_mul hb (by rw [Int.mul_comm]; exact x1)⟩, Int.emod_nonneg _ (Int.ne_of_gt hb), Int.emod_lt_of_pos _ hb⟩
theorem ld_alg {P y b z d u v : Int} (e : v + b * u = z * P + d) : (u + P * y) * b + v = d + P * (y * b + z) := by
  rw [Int.add_mul, Int.mul_add, Int.mul_assoc, Int.mul_comm u b, Int.mul_comm P z]
  omega
theorem ld_ok {n : Nat} {b : Int} (hb : 0 < b) : ∀ (l : List Int), (∀ d ∈ l, 0 ≤ d ∧ d < 2 ^ n) →
    (ld n b l.reverse).1.length = l.length ∧ (∀ d ∈ (ld n b l.reverse).1, 0 ≤ d ∧ d < 2 ^ n) ∧ (0 ≤ (ld n b l.reverse).2 ∧ (ld n b l.reverse).2 < b) ∧ hor n (ld n b l.reverse).1.reverse * b + (ld n b l.reverse).2 = hor n l
  | [], _ => ⟨rfl, (fun d h => nomatch h), ⟨Int.le_refl _, hb⟩, by simp [ld, hor]⟩
  | d :: l, h => by
    obtain ⟨i1, i2, i3, i4⟩ := ld_ok hb l fun x hx => h x (.tail _ hx)
    obtain ⟨_, _, q, r⟩ := ldS_ok hb i3.1 i3.2 (h d (.head _)).1 (h d (.head _)).2
    rw [List.reverse_cons, ld_snoc]
    refine ⟨by rw [ldS, List.length_append, i1]; rfl, fun x hx => ?_, r, ?_⟩
    · rcases List.mem_append.mp hx with hx | hx
      · exact i2 x hx
      · rw [List.mem_singleton.mp hx]; exact q
    · rw [ldS]
      simp only [List.reverse_append, List.reverse_cons, List.reverse_nil, List.nil_append, List.singleton_append, hor]
      rw [← i4]
      refine ld_alg ?_
      have e := Int.fmod_add_fdiv_mul ((ld n b l.reverse).2 * 2 ^ n + d) b
      rw [Int.mul_comm _ b] at e
      exact e
theorem ld_div {n k x : Nat} {b : Int} (hb : 0 < b) (hx : x < 2 ^ (n * k)) :
    hor n (ld n b (digs n k x).reverse).1.reverse = (x : Int).fdiv b ∧ (ld n b (digs n k x).reverse).2 = (x : Int).fmod b := by
  obtain ⟨_, _, i3, i4⟩ := ld_ok (n := n) hb (digs n k x) (digs_rng n k x)
  rw [hor_digs n k x hx] at i4
  rw [Int.fdiv_eq_ediv_of_nonneg _ (Int.le_of_lt hb), Int.fmod_eq_emod_of_nonneg _ (Int.le_of_lt hb)]
  have := (Int.ediv_emod_unique hb (a := (x : Int)) (r := (ld n b (digs n k x).reverse).2) (q := hor n (ld n b (digs n k x).reverse).1.reverse)).mpr ⟨by rw [← i4, Int.mul_comm b]; omega, i3⟩
  exact ⟨this.1.symm, this.2.symm⟩
end Mine
end
section
open PySem PySem.W PySem.Spec PySem.Calls PyProof.Rows
namespace Mine
set_option maxRecDepth 100000
set_option maxHeartbeats 8000000
theorem fill6 : (PySem.Challenge.rw_sn0080_01.row.prog = PySem.Challenge.rw_sn0080_01.row.prog) ∧ (Mine.K0 = Mine.K0) := by k_fill; exact ⟨rfl, rfl⟩

theorem Iter.listRev {w : World} {A : Around} {I l : Addr} {items : Array Value} (hh : A.handled = none) :
    Iter w A I (fun k o => o.cls = .type "list_reverseiterator" ∧ o.data = .fields #[.ref l, rawInt ((items.size : Int) - 1 - (k : Int))] ∧ k ≤ items.size) (fun k v => items[items.size - 1 - k]? = some v) items.size (fun h => h.IsList l items) where
  next := fun k o s Q E hk hit ho hl hQ => by
    have e : (items.size : Int) - 1 - (k : Int) = ((items.size - 1 - k : Nat) : Int) := by omega
    rw [e] at hit
    have hx : items[items.size - 1 - k]? = some (items[items.size - 1 - k]'(by omega)) := Array.getElem?_eq_getElem (by omega)
    refine wpAny_pyNext_rev_item ⟨o, ho, hit.1, hit.2.1⟩ hl hx fun h' hit' hs' => ?_
    obtain ⟨o', ho', hc, hd⟩ := hit'
    have e2 : ((items.size - 1 - k : Nat) : Int) - 1 = (items.size : Int) - 1 - ((k + 1 : Nat) : Int) := by omega
    rw [e2] at hd
    exact hQ _ h' s.toks o' hx ⟨hc, hd, hk⟩ ho' hs'
  done := fun o s Q E hit ho hl hQ => by
    have e : (items.size : Int) - 1 - (items.size : Int) = -1 := by omega
    rw [e] at hit
    exact wpAny_pyNext_rev_end hh ⟨o, ho, hit.1, hit.2.1⟩ hQ
  quiet := fun k o s target v Q E hit ho hQ => letGo_plain ho hit.1 (by decide) hQ

theorem ld_ok' {n : Nat} {b : Int} (hb : 0 < b) {l : List Int} (h : ∀ d ∈ l, 0 ≤ d ∧ d < 2 ^ n) : (ld n b l).1.length = l.length ∧ (∀ d ∈ (ld n b l).1, 0 ≤ d ∧ d < 2 ^ n) ∧ 0 ≤ (ld n b l).2 ∧ (ld n b l).2 < b := by
  have z := ld_ok hb l.reverse fun d hd => h d (List.mem_reverse.mp hd)
  rw [List.reverse_reverse, List.length_reverse] at z
  exact ⟨z.1, z.2.1, z.2.2.1⟩
theorem bits_lt {r : Int} {y : Nat} {m : Nat} (h0 : 0 ≤ r) (h : r < y) (hm : y < 2 ^ m) : Builtin.Int.intBits r ≤ m := intBits_le_iff.mpr (by omega)
theorem bits_x {x : Int} {y n : Nat} (h0 : 0 ≤ x) (h : x < (y : Int) * 2 ^ n) (hm : y < 2 ^ n) (hn : n ≤ 1000) : (Builtin.Int.intBits x : Int) - (n : Int) ≤ 4000 := by
  have z : Builtin.Int.intBits x ≤ n + n := by
    refine intBits_le_iff.mpr ?_
    rw [Nat.pow_add]
    have k := Nat.mul_lt_mul_of_pos_right hm (Nat.pow_pos (a := 2) (n := n) (by decide))
    have e : (y : Int) * 2 ^ n = ((y * 2 ^ n : Nat) : Int) := by push_cast; rfl
    rw [e] at h
    omega
  omega
theorem log_small {y n : Nat} (hy : 1 ≤ y) (h : y < 2 ^ n) (hn : n ≤ 1000) : (y : Int).natAbs.log2 < 9000 := by
  have z := (Nat.log2_lt (Nat.ne_of_gt hy)).mpr h
  show y.log2 < 9000
  omega

/-- both code tables -/
def TT (ts : List (Addr × Obj)) : Prop := ∃ a b, ts = a ++ b ∧ T37 a ∧ T44 b ∧ ∀ p ∈ b, p.1 ∉ a.map (·.1)

theorem dmp_fn (w : World) (x y : Nat) (t t' : Tok) (hy : 1 ≤ y) (hy2 : Builtin.Int.intBits (y : Int) ≤ 1000) (hc : cnt (Builtin.Int.intBits (y : Int)) x ≤ 100) :
    FnT w 56 [.int (x : Int) t, .int (y : Int) t'] 130 1300 TT (fun _ => True) (fun h v h' => ∃ t t', FreshTup h v h' [.int ((x : Int).fdiv (y : Int)) t, .int ((x : Int).fmod (y : Int)) t']) := by
  intro ts dp un fr gd s R hT hts g hd hu _ hret
  obtain ⟨ta, tb, rfl, hTa, hTb, hab⟩ := hT
  refine' enterH (binds := [(Str.ofString "a", .int (x : Int) t), (Str.ofString "b", .int (y : Int) t')]) _ g hts ?k6 ?kd ?k7 ?k8 ?k9 ?kB ?_ ?c2 ?c3 ?c4 ?c5
  (case k6 => exact of_hideAll _ (fn_at g (by k_is)))
  (case kd => with_unfolding_all exact rfl)
  (case k7 => exact (codeRec_of g.k (by k_is)).keeps fun b o e => of_hideAll _ e)
  (case k8 => exact Nat.lt_of_le_of_lt (Nat.le_add_right _ _) hd)
  (case k9 => exact BindsTo.of_eq rfl)
  (case c5 => decide)
  (case kB => exact locs rfl); (case c2 => exact rfl); (case c3 => exact rfl); (case c4 => exact rfl)
  intro L' h' vw lo mean mg mb F N l0 X' T'
  iterate 19 (first | (k_unfold; (try dsimp only)) | walk1 | (dsimp only; walk1))
  rename Fr _ _ _ _ => F'
  rename News _ _ _ _ => N'
  have h1 : 1 ≤ Builtin.Int.intBits (y : Int) := Nat.pos_of_ne_zero fun e => by
    have z := intBits_le_iff.mp (Nat.le_of_eq e)
    exact absurd hy (Nat.not_le.mpr z)
  refine (i2d_fn w x (Builtin.Int.intBits (y : Int)) t _ h1 hy2 hc).use (rest := tb) (ts := ta) g F' (fun p hp => N' p (List.mem_append.mpr (List.mem_append.mp hp).symm)) hab hTa rfl (by show dp + 1 + _ < _; first | exact ltD hd (by decide) | omega) (by show un + 3 + _ < _; first | exact ltU hu (by decide) | omega) trivial ?_
  rintro v h₂ tk₂ ta' hTa' F₂ N₂ hab' ⟨D, vs, e, rfl, hD0, hD1, hi⟩
  have N₃ := newsNew F' N₂ hD1 hD0
  have hds := digs_rng (Builtin.Int.intBits (y : Int)) (cnt (Builtin.Int.intBits (y : Int)) x) x
  have hlen := digs_length (Builtin.Int.intBits (y : Int)) (cnt (Builtin.Int.intBits (y : Int)) x) x
  have hdiv := ld_div (b := (y : Int)) (Int.ofNat_lt.mpr hy) (cnt_bits h1 (x := x))
  have hyn : y < 2 ^ Builtin.Int.intBits (y : Int) := intBits_le_iff.mp (Nat.le_refl (Builtin.Int.intBits (y : Int)))
  rw [← hlen] at hc
  generalize digs (Builtin.Int.intBits (y : Int)) (cnt (Builtin.Int.intBits (y : Int)) x) x = ds at hi hds hlen hdiv hc
  clear hlen
  clear N₂ N' F'
  iterate 14 (first | (k_unfold; (try dsimp only)) | walk1 | (dsimp only; walk1))
  generalize Builtin.Int.intBits (y : Int) = n at *
  refine forI ?_ (by intro _; rfl)
  iterate 6 (first | (k_unfold; (try dsimp only)) | walk1 | (dsimp only; walk1))
  rename Fr _ _ _ _ => F
  rename News _ _ _ _ => N
  rename_i l h₃ l1 h₄
  refine krv_reversed F N ⟨_, (N _ (.tail _ (.head _))).1, rfl, e, rfl⟩ fun I h₅ F₅ N₅ hI => ?_
  clear F N
  dsimp only
  refine wpAny_pyIter_revIter ⟨_, (N₅ _ (.head _)).1, rfl, rfl⟩ ?_
  have hnl : ∀ p ∈ (D, W.listOf vs.toArray e) :: (tb ++ ta'), p.1 < l := List.forall_mem_cons.mpr ⟨l1.1, ktn_ltOf l1.2⟩
  refine loopI (Iter.listRev (l := D) (items := vs.toArray) rfl) (fun k m nx => ∃ t₁ t₂ vq eq, m (Str.ofString "q_digits") = some (.ref l) ∧ m (Str.ofString "r") = some (.int (ld n y (ds.reverse.take k)).2 t₁) ∧ m (Str.ofString "n") = some (.int n t₂) ∧ m (Str.ofString "b") = some (.int (y : Int) t') ∧
    nx = (l, W.listOf vq.toArray eq) :: (D, W.listOf vs.toArray e) :: (tb ++ ta') ∧ IntsAre vq (ld n y (ds.reverse.take k)).1) F₅ ⟨rfl, ?_, Nat.zero_le _⟩ N₅ ?_ ⟨_, _, [], 0, rfl, rfl, rfl, rfl, rfl, .nil⟩ ?_ ?_ ?_
  · simp [revObj]
  · exact fun p hp => Nat.ne_of_lt (hI p hp)
  · rintro k m' nx h ⟨t₁, t₂, vq, eq, -, -, -, -, rfl, -⟩ F N
    exact ⟨_, (N _ (.tail _ (.head _))).1, rfl, e, rfl⟩
  · rintro k v m₁ nx h tk o hk hv hio ⟨t₁, t₂, vq, eq, e1, e2, e3, e4, rfl, hq⟩ hoff F N
    obtain ⟨d, t₃, rfl, hd⟩ : ∃ d t₃, v = .int d t₃ ∧ ds.reverse[k]? = some d := by
      obtain ⟨n, t, rfl, hn⟩ := hi.at _ v (by simpa using hv)
      refine ⟨n, t, rfl, ?_⟩
      rw [List.getElem?_reverse (by rw [← hi.length]; simpa using hk), ← hi.length]
      simpa using hn
    have F' := frKnow F [(Str.ofString "q_digits", _), (Str.ofString "r", _), (Str.ofString "n", _), (Str.ofString "b", _)] ⟨e1, e2, e3, e4, trivial⟩
    clear F
    iterate 13 (first | (k_unfold; (try dsimp only)) | walk1 | (dsimp only; walk1))
    have hpre : ∀ z ∈ ds.reverse.take k, 0 ≤ z ∧ z < 2 ^ n := fun z hz => hds z (List.mem_reverse.mp (List.mem_of_mem_take hz))
    obtain ⟨q1, q2, q3, q4⟩ := ld_ok' (Int.ofNat_lt.mpr hy) hpre
    have q5 := hds d (List.mem_reverse.mp (List.mem_of_getElem? hd))
    obtain ⟨x1, x2, _, _⟩ := ldS_ok (Int.ofNat_lt.mpr hy) q3 q4 q5.1 q5.2
    refine lshift_int (Int.natCast_nonneg _) ?_ ?_
    · have z := bits_lt q3 q4 hyn
      omega
    iterate 8 (first | (k_unfold; (try dsimp only)) | walk1 | (dsimp only; walk1))
    rename Fr _ _ _ _ => F
    rename News _ _ _ _ => N
    refine (div_fn w _ (y : Int) n _ _ _ (by omega) (log_small hy hyn hy2) (bits_x x1 x2 hyn hy2)).use g F N rfl ?_ ?_ trivial ?_
    · show dp + 1 + _ < _; first | exact ltD hd (by decide) | omega
    · show un + 3 + _ < _; first | exact ltU hu (by decide) | omega
    rintro v h₇ tk₇ k₇ F₇ N₇ ⟨t₇, t₈, T, rfl, hT0, hT1⟩
    have N₈ := newsNew F N₇ hT1 hT0
    clear F N N₇
    dsimp only
    have hIl : I ≠ l := fun e => hoff _ (.head _) e.symm
    clear hio hoff q3 q4 q5 x1 x2
    iterate 18 (first | (k_unfold; (try dsimp only)) | walk1 | (dsimp only; walk1))
    rename Fr _ _ _ _ => F
    rename News _ _ _ _ => N
    have hvq : vq.toArray.size ≤ sizeLine := by
      have z : (List.take k ds.reverse).length ≤ 100 := Nat.le_trans (List.length_take_le' ..) (by rw [List.length_reverse]; exact hc)
      rw [List.size_toArray, hq.length, q1]
      exact Nat.le_trans z (by decide)
    refine append_second F (fun p hp => N p (.tail _ hp)) hIl (fun p hp => Nat.ne_of_lt (hnl p hp)) (fun h₈ F₈ N₉ => ?_) hvq
    clear F N
    rw [List.push_toArray] at N₉
    iterate 2 (first | (k_unfold; (try dsimp only)) | walk1 | (dsimp only; walk1))
    dsimp only [UnrPost]
    refine UnrEnd.intro (by assumption) N₉ _ (fun p hp => hp) ?_ ?_
    · intro p hp
      rcases List.mem_cons.mp hp with rfl | hp
      · exact hIl.symm
      · exact Nat.ne_of_lt (hI p (.tail _ hp))
    · rw [take_succ_of hd, ld_snoc]
      exact ⟨_, _, _, _, rfl, rfl, rfl, rfl, rfl, hq.append (.cons _ _ .nil)⟩
  · rintro m₁ nx h tk ⟨t₁, t₂, vq, eq, e1, e2, e3, e4, rfl, hq⟩ F N
    have F' := frKnow F [(Str.ofString "q_digits", _), (Str.ofString "r", _), (Str.ofString "n", _)] ⟨e1, e2, e3, trivial⟩
    clear F
    rw [List.size_toArray, hi.length, ← List.length_reverse (as := ds), List.take_length] at hq e2 F'
    obtain ⟨q1, q2, _, _⟩ := ld_ok' (l := ds.reverse) (Int.ofNat_lt.mpr hy) fun z hz => hds z (List.mem_reverse.mp hz)
    rw [List.length_reverse] at q1
    iterate 6 (first | (k_unfold; (try dsimp only)) | walk1 | (dsimp only; walk1))
    rename Fr _ _ _ _ => F
    refine reverse_head_ints F N (fun p hp => Nat.ne_of_lt (hnl p hp)) hq (fun h₈ F₈ N₈ hq₈ => ?_) (by rw [q1]; exact Nat.le_trans hc (by decide))
    clear F N
    iterate 11 (first | (k_unfold; (try dsimp only)) | walk1 | (dsimp only; walk1))
    rename Fr _ _ _ _ => F
    rename News _ _ _ _ => N
    clear F₅ N₅ hD0 hD1 hI hq e1 e2 e3 e4
    have hDb : D ∉ tb.map (·.1) := hTb.notList (fun p hp => (N p (.tail _ (.tail _ (List.mem_append_left _ hp)))).1) (N _ (.tail _ (.head _))).1
    refine (d2i_fn w l n eq _ vq.toArray.toList.reverse _ hy2 (by rw [List.length_reverse, q1]; exact hc) (fun z hz => q2 z (List.mem_reverse.mp hz)) hq₈).use (rest := (D, W.listOf vs.toArray e) :: ta') (ts := (l, W.listOf vq.toArray.toList.reverse.toArray eq) :: tb) g F ?_ ?_ ⟨tb, rfl, hTb⟩ rfl ?_ ?_ trivial ?_
    · intro p hp
      simp only [List.mem_append, List.mem_cons] at hp
      refine N p ?_
      simp only [List.mem_append, List.mem_cons]
      rcases hp with (hp | hp) | hp | hp <;> simp [hp]
    · intro p hp q
      rcases List.mem_cons.mp q with q | q
      · exact absurd q (Nat.ne_of_lt (hnl p (List.mem_cons.mpr ((List.mem_cons.mp hp).imp id (List.mem_append_right _)))))
      · rcases List.mem_cons.mp hp with rfl | hp
        · exact hDb q
        · obtain ⟨r, hr, er⟩ := List.mem_map.mp q
          exact hab' r hr (List.mem_map.mpr ⟨p, hp, er.symm⟩)
    · show dp + 1 + _ < _; first | exact ltD hd (by decide) | omega
    · show un + 3 + _ < _; first | exact ltU hu (by decide) | omega
    rintro v h₉ tk₉ ts' ⟨tb', rfl, hTb'⟩ F₉ N₉ hne' ⟨t₉, rfl⟩
    clear F N
    dsimp only
    iterate 10 (first | (k_unfold; (try dsimp only)) | walk1 | (dsimp only; walk1))
    rename Fr _ _ _ _ => F
    rename News _ _ _ _ => N
    refine wpAny_newTuple ?_
    dsimp only
    rw [hdiv.1, hdiv.2]
    have NN := N.push F { cls := .type "tuple", data := .seq #[.int ((x : Int).fdiv (y : Int)) t₉, .int ((x : Int).fmod (y : Int)) t₁] }
    refine hret _ _ _ (ta' ++ tb') ⟨ta', tb', rfl, hTa', hTb', fun p hp q => ?_⟩ (grew_of NN fun p hp => ?_) (fun b o hb q => (F.push _).keep b o (hideAll_get _ q hb)) ⟨t₉, t₁, _, rfl, fresh_of ?_, (NN _ (.head _)).1⟩
    · obtain ⟨r, hr, er⟩ := List.mem_map.mp q
      exact hne' r (.tail _ hr) (List.mem_map.mpr ⟨p, .tail _ hp, er.symm⟩)
    · simp only [List.mem_append, List.mem_cons] at hp ⊢
      rcases hp with hp | hp <;> simp [hp]
    · have z := F.above
      rw [hideAll_size] at z
      exact Nat.le_trans z (Nat.le_of_lt F.ns.lt)
end Mine
end
section
open PySem PySem.W PySem.Spec PySem.Calls PyProof.Rows
namespace Mine
set_option maxRecDepth 100000
set_option maxHeartbeats 8000000
theorem fill7 : (PySem.Challenge.rw_sn0080_01.row.prog = PySem.Challenge.rw_sn0080_01.row.prog) ∧ (Mine.K0 = Mine.K0) := by k_fill; exact ⟨rfl, rfl⟩

theorem iseof_fn (w : World) (x : Int) (t : Tok) : Fn w 141 [.int x t] 2 20 (fun _ => True) (fun _ v _ => v = .bool (x == 0)) := by
  intro dp un fr gd s R g hd hu _ hret
  (refine' enterH (binds := [(Str.ofString "x", .int x t)]) [] ?k0 ?ki ?k6 ?kd ?k7 ?k8 ?k9 ?kB ?_ ?c2 ?c3 ?c4 ?c5; (case k0 => assumption); (case ki => exact List.forall_mem_nil _); (case k6 => exact fn_at (by assumption) (by k_is)); (case kd => with_unfolding_all exact rfl); (case k7 => exact codeRec_of (G.k (by assumption)) (by k_is)); (case k8 => exact Nat.lt_of_le_of_lt (Nat.le_add_right _ _) hd); (case k9 => first | exact BindsTo.of_eq rfl | exact binds_K (G.k (by assumption)) rfl (by k_is) rfl rfl rfl); (case c5 => decide); (case kB => exact locs rfl); (case c2 => exact rfl); (case c3 => exact rfl); (case c4 => exact rfl); k_whole; intro L' h' vw lo mean mg mb F' N' l0 X' T'; clear l0; (try dsimp only [List.map_nil, hideAll] at *))
  (repeat' (first | (k_unfold; (try dsimp only)) | walk1 | (dsimp only; walk1)))
  exact hret _ _ _ (Fr.keep (by assumption)) rfl
def ctOf (i : Int) : List Int := match i with
  | 0 => [4, 2] | 1 => [3, 3] | 2 => [2, 1, 1] | 3 => [4, 1, 1] | 4 => [6, 2] | 5 => [2, 2, 1] | _ => [1, 1, 1, 1]
theorem tup_end {h₀ h : Heap} {L a : Addr} {news : List (Addr × Obj)} {vs : List Value} {ns : List Int} (N : News h₀ L h news) (hm : (a, ({ cls := .type "tuple", data := .seq vs.toArray } : Obj)) ∈ news) (hi : IntsAre vs ns) :
    ∃ vs, FreshTup h₀ (.ref a) h vs ∧ IntsAre vs ns := ⟨vs, ⟨a, rfl, (N _ hm).2.2, (N _ hm).1⟩, hi⟩
theorem content_fn (w : World) (x : Int) (t : Tok) (hx : 0 ≤ x ∧ x ≤ 100000) : Fn w 155 [.int x t] 2 20 (fun _ => True) (fun h v h' => ∃ vs, FreshTup h v h' vs ∧ IntsAre vs (ctOf (x.fmod 7))) := by
  intro dp un fr gd s R g hd hu _ hret
  (refine' enterH (binds := [(Str.ofString "total", .int x t)]) [] ?k0 ?ki ?k6 ?kd ?k7 ?k8 ?k9 ?kB ?_ ?c2 ?c3 ?c4 ?c5; (case k0 => assumption); (case ki => exact List.forall_mem_nil _); (case k6 => exact fn_at (by assumption) (by k_is)); (case kd => with_unfolding_all exact rfl); (case k7 => exact codeRec_of (G.k (by assumption)) (by k_is)); (case k8 => exact Nat.lt_of_le_of_lt (Nat.le_add_right _ _) hd); (case k9 => first | exact BindsTo.of_eq rfl | exact binds_K (G.k (by assumption)) rfl (by k_is) rfl rfl rfl); (case c5 => decide); (case kB => exact locs rfl); (case c2 => exact rfl); (case c3 => exact rfl); (case c4 => exact rfl); k_whole; intro L' h' vw lo mean mg mb F' N' l0 X' T'; clear l0; (try dsimp only [List.map_nil, hideAll] at *))
  iterate 81 (first | (k_unfold; (try dsimp only)) | walk1 | (dsimp only; walk1))
  (first | (k_unfold; (try dsimp only)) | walk1 | (dsimp only; walk1))
  all_goals ((first | (k_unfold; (try dsimp only)) | walk1 | (dsimp only; walk1)); (try dsimp only))
  all_goals (rename x.fmod 7 = _ => hq; rename News _ _ _ _ => N)
  all_goals rw [hq] at hret
  all_goals clear hq hx
  all_goals (refine' hret _ _ _ (Fr.keep (by assumption)) (tup_end N ?_ ?_))
  all_goals try first | (repeat first | exact List.Mem.head _ | apply List.Mem.tail); done | exact .cons _ _ (.cons _ _ .nil) | exact .cons _ _ (.cons _ _ (.cons _ _ .nil)) | exact .cons _ _ (.cons _ _ (.cons _ _ (.cons _ _ .nil)))
def chG (n : Int) (l : List Int) (k : Int) : List Int := if n.fmod k = 0 then l ++ [k] else l
def chOf (n : Nat) : List Int := (rangeKs 2 (n - 1)).foldl (chG n) []
def dvOf (n : Nat) (x : Int) : Int := (chOf n).getD ((-1 - (x.fdiv 4).fmod (chOf n).length) + (chOf n).length).toNat 0
theorem chG_grows (n : Int) : KPfGrows (chG n) := by
  intro l k
  unfold chG
  split <;> simp
theorem chOf_pos {n : Nat} (h : 4 ≤ n ∧ n ≤ 8) : 0 < (chOf n).length ∧ (chOf n).length ≤ 8 := by
  have k : ∀ n : Fin 9, 4 ≤ n.val → 0 < (chOf n).length ∧ (chOf n).length ≤ 8 := by decide +kernel
  exact k ⟨n, by omega⟩ h.1
theorem divisor_fn (w : World) (n : Nat) (x : Int) (t t' : Tok) (hn : 4 ≤ n ∧ n ≤ 8) (hx : 0 ≤ x ∧ x ≤ 100000) : Fn w 198 [.int n t, .int x t'] 2 20 (fun _ => True) (fun h v h' => ∃ t, v = .int (dvOf n x) t) := by
  intro dp un fr gd s R g hd hu _ hret
  (refine' enterHC (binds := [(Str.ofString "size", .int n t), (Str.ofString "total", .int x t')]) [] ?k0 ?ki ?k6 ?kd ?k7 ?k8 ?k9 ?kB ?kD ?_ ?c2 ?c3 ?c4; (case k0 => assumption); (case ki => exact List.forall_mem_nil _); (case k6 => exact fn_at (by assumption) (by k_is)); (case kd => with_unfolding_all exact rfl); (case k7 => exact codeRec_of (G.k (by assumption)) (by k_is)); (case k8 => exact Nat.lt_of_le_of_lt (Nat.le_add_right _ _) hd); (case k9 => first | exact BindsTo.of_eq rfl | exact binds_K (G.k (by assumption)) rfl (by k_is) rfl rfl rfl); (case kB => exact rfl); (case kD => decide +kernel); (case c2 => exact rfl); (case c3 => exact rfl); (case c4 => exact rfl); k_whole; intro L' h' tk' cells' vw lo mean mg mb F' N' Y' l0 X' T'; clear l0; k_cells Y'; (try simp only [List.cons_append, List.nil_append] at N'); (try dsimp only [List.map_nil, hideAll] at *))
  (first | (k_unfold; (try dsimp only)) | walk1 | (dsimp only; walk1))
  (first | (k_unfold; (try dsimp only)) | walk1 | (dsimp only; walk1))
  rotate_left 3
  · exact chG n
  · (repeat' (first | (k_unfold; (try dsimp only)) | walk1 | (dsimp only; walk1)))
  · have e : ((n : Int) + 1 - 2).toNat = n - 1 := by omega
    rw [e]
    intro ys hys hl
    replace hys : IntsAre ys (chOf n) := hys
    have hp := chOf_pos hn
    clear hl e hn
    unfold dvOf at hret
    generalize chOf n = ch at *
    intro D h₂ tk₂ F₂ N₂ _
    iterate 19 (first | (k_unfold; (try dsimp only)) | walk1 | (dsimp only; walk1))
    rename News _ _ _ _ => N
    refine kst_len (us := ys) (c := ys.length) N (.head _) hys.length (by omega) ?_
    iterate 2 (first | (k_unfold; (try dsimp only)) | walk1 | (dsimp only; walk1))
    have h1 := Int.fmod_nonneg_of_pos (x.fdiv 4) (show (0 : Int) < (ch.length : Int) by omega)
    have h2 := Int.fmod_lt_of_pos (x.fdiv 4) (show (0 : Int) < (ch.length : Int) by omega)
    refine item_list_ints_neg (vs := ys) ⟨_, (N _ (.head _)).1, rfl, _, rfl⟩ hys (by omega) (by omega) (by omega) ?_
    intro t₃
    (skip; (try dsimp only))
    exact hret _ _ _ (Fr.keep (by assumption)) ⟨t₃, rfl⟩
  · exact chG_grows n
end Mine
end
section
open PySem PySem.W PySem.Spec PySem.Calls PyProof.Rows
namespace Mine
set_option maxRecDepth 100000
set_option maxHeartbeats 1000000

theorem turn2_0 (elt t0 i0 t1 i1 : PySem.Expr) (f1 : List PySem.Expr) (scope : Scope) (pos : Pos) (it acc : Value) (env : Env) :
    compTurn (.ListComp elt [⟨t0, i0, [], 0⟩, ⟨t1, i1, f1, 0⟩] scope pos) 0 it acc env = (do
      standAt i0.pos
      match ← pyNext it with
      | none => pure (.done .next)
      | some v =>
        letOwnedTupleGo t0 it v
        assign t0 env v
        let mut ok := true
        for c in ([] : List PySem.Expr) do
          if ok then ok ← PySem.isTrue c env (eval c env)
        if ok then
          let x ← eval i1 env
          standAt i1.pos
          let x ← foldedSetIterable i1 env x
          let _ ← runOwn (.compStart (.ListComp elt [⟨t0, i0, [], 0⟩, ⟨t1, i1, f1, 0⟩] scope pos) 1 (← holding [x] (pyIter x)) acc env) env
        again (.compLoop (.ListComp elt [⟨t0, i0, [], 0⟩, ⟨t1, i1, f1, 0⟩] scope pos) 0 it acc env)) := by rfl
theorem turn2_1 (elt t0 i0 t1 i1 : PySem.Expr) (f1 : List PySem.Expr) (scope : Scope) (pos : Pos) (it acc : Value) (env : Env) :
    compTurn (.ListComp elt [⟨t0, i0, [], 0⟩, ⟨t1, i1, f1, 0⟩] scope pos) 1 it acc env = (do
      standAt i1.pos
      match ← pyNext it with
      | none => pure (.done .next)
      | some v =>
        letOwnedTupleGo t1 it v
        assign t1 env v
        let mut ok := true
        for c in f1 do
          if ok then ok ← PySem.isTrue c env (eval c env)
        if ok then
          (do let _ ← call (.builtin "list.append") [acc, ← eval elt env])
        again (.compLoop (.ListComp elt [⟨t0, i0, [], 0⟩, ⟨t1, i1, f1, 0⟩] scope pos) 1 it acc env)) := by rfl

section
variable {w : World} {A : Around} {s : Shared} {h₀ : Heap} {L : Addr} {m : Str → Option Value} {cenv : Env} {elt t0 i0 t1 i1 : PySem.Expr} {f1 : List PySem.Expr} {scope : Scope} {pos : Pos} {acc : Value} {R : Result → Shared → Prop}

def CEnd (h₀ : Heap) (L : Addr) (m : Str → Option Value) (s : Shared) (I : Addr) (o : Obj) (J : List (Addr × Obj) → Prop) (s₂ : Shared) : Prop :=
  ∃ h' tk nx, s₂ = { s with heap := h', toks := tk } ∧ Fr h₀ L h' m ∧ News h₀ L h' ((I, o) :: nx) ∧ (∀ p ∈ nx, p.1 ≠ I) ∧ J nx

abbrev NoE : Value → Shared → Prop := fun _ _ => False
abbrev cmp2 (elt t0 i0 t1 i1 : PySem.Expr) (f1 : List PySem.Expr) (scope : Scope) (pos : Pos) : PySem.Expr := .ListComp elt [⟨t0, i0, [], 0⟩, ⟨t1, i1, f1, 0⟩] scope pos

theorem loopC1 {I : Addr} {it : Nat → Obj → Prop} {item : Nat → Value → Prop} {n : Nat} {Ok : Heap → Prop} {news : List (Addr × Obj)} {o₀ : Obj} (It : Iter w A I it item n Ok) (J : Nat → List (Addr × Obj) → Prop)
    (F : Fr h₀ L s.heap m) (h0 : it 0 o₀) (N : News h₀ L s.heap ((I, o₀) :: news)) (hI : ∀ p ∈ news, p.1 ≠ I) (hj : J 0 news)
    (hok : ∀ k nx h, J k nx → Fr h₀ L h m → News h₀ L h nx → Ok h)
    (turn : ∀ k v nx h tk o, k < n → item k v → it (k + 1) o → J k nx → (∀ p ∈ nx, p.1 ≠ I) → Fr h₀ L h m → News h₀ L h ((I, o) :: nx) →
      wpAny (model prog w) A (assign t1 cenv v) (fun _ s₂ => wpAny (model prog w) A (forIn f1 true fun c r => if r = true then do let ok ← PySem.isTrue c cenv (eval c cenv); pure (ForInStep.yield ok) else pure (ForInStep.yield r)) (fun ok s₃ =>
        if ok = true then wpAny (model prog w) A (eval elt cenv) (fun x s₄ => wpAny (model prog w) A (call (.builtin "list.append") [acc, x]) (fun _ s₅ => CEnd h₀ L m { s with heap := h, toks := tk } I o (J (k + 1)) s₅) NoE s₄) NoE s₃
        else CEnd h₀ L m { s with heap := h, toks := tk } I o (J (k + 1)) s₃) NoE s₂) NoE { s with heap := h, toks := tk })
    (done : ∀ nx h tk, J n nx → Fr h₀ L h m → News h₀ L h nx → R (.ok .next) { s with heap := h, toks := tk }) :
    codeAny (model prog w) A (.compLoop (cmp2 elt t0 i0 t1 i1 f1 scope pos) 1 (.ref I) acc cenv) R s := by
  have nL : ∀ {h o} {nx : List (Addr × Obj)}, News h₀ L h ((I, o) :: nx) → L ≠ I := fun N => (N _ (.head _)).2.1.symm
  have n0 : h₀.get? I = none := (N _ (.head _)).2.2
  refine codeAny_loop rfl (fun k s' => ∃ i nx h tk o, k = n - i ∧ i ≤ n ∧ s' = { s with heap := h, toks := tk } ∧ J i nx ∧ (∀ p ∈ nx, p.1 ≠ I) ∧ it i o ∧ Fr h₀ L h m ∧ News h₀ L h ((I, o) :: nx)) ?_ n ⟨0, news, s.heap, s.toks, o₀, rfl, Nat.zero_le _, rfl, hj, hI, h0, F, N⟩
  rintro k s' ⟨i, nx, h, tk, o, rfl, hi, rfl, hJ, hoff, hio, F', N'⟩
  show wpAny _ A ((compTurn (cmp2 elt t0 i0 t1 i1 f1 scope pos) 1 (.ref I) acc cenv).onRaise (fun x => do noteFrame x cenv; theTreesLotGoes x)) _ _ _
  refine wpAny_noted (wpAny_noRaise ?_)
  rw [turn2_1]
  have Nx : News h₀ L h nx := fun p hp => N' p (.tail _ hp)
  have ok := hok i nx h hJ F' Nx
  refine wpAny_bind (wpAny_standAt (wpAny_bind ?_))
  by_cases hlt : i < n
  · refine It.next i o _ _ _ hlt hio (N' _ (.head _)).1 ok fun v h₁ tk₁ o₁ hv hio₁ hI₁ hs₁ => ?_
    have F₁ := frSameBut F' hs₁.extBut (nL N') n0
    have N₁ : News h₀ L h₁ ((I, o₁) :: nx) := fun p hp => by
      rcases List.mem_cons.mp hp with rfl | hp
      · exact ⟨hI₁, (N' _ (.head _)).2⟩
      · exact newsSameBut Nx hs₁.extBut hoff p hp
    refine wpAny_bind (It.quiet (i + 1) o₁ _ t1 v _ _ hio₁ (by exact hI₁) ?_)
    have fin : ∀ {s₃}, CEnd h₀ L m { s with heap := h₁, toks := tk₁ } I o₁ (J (i + 1)) s₃ → ∃ mm, mm < n - i ∧ ∃ i' nx h tk o, mm = n - i' ∧ i' ≤ n ∧ s₃ = { s with heap := h, toks := tk } ∧ J i' nx ∧ (∀ p ∈ nx, p.1 ≠ I) ∧ it i' o ∧ Fr h₀ L h m ∧ News h₀ L h ((I, o) :: nx) := by
      rintro s₃ ⟨h', tk', nx', rfl, F₂, N₂, ho, hJ₂⟩
      exact ⟨n - (i + 1), by omega, i + 1, nx', h', tk', o₁, rfl, hlt, rfl, hJ₂, ho, hio₁, F₂, N₂⟩
    refine wpAny_bind (wpAny_mono (turn i v nx h₁ tk₁ o₁ hlt hv hio₁ hJ hoff F₁ N₁) (fun _ s₂ h₂ => wpAny_bind (wpAny_mono h₂ (fun ok s₃ h₃ => ?_) fun _ _ e => e)) fun _ _ e => e)
    cases ok with
    | false => exact wpAny_pure ⟨rfl, fin h₃⟩
    | true => exact wpAny_bind (wpAny_bind (wpAny_mono h₃ (fun x s₄ h₄ => wpAny_bind (wpAny_mono h₄ (fun _ s₅ h₅ => wpAny_pure (wpAny_pure ⟨rfl, fin h₅⟩)) fun _ _ e => e)) fun _ _ e => e))
  · have hin : i = n := by omega
    subst hin
    refine It.done o _ _ _ hio (N' _ (.head _)).1 ok fun h₁ hs₁ => wpAny_pure ?_
    exact done nx h₁ tk hJ (frSameBut F' hs₁ (nL N') n0) (newsSameBut Nx hs₁ hoff)

theorem loopC0 {I : Addr} {it : Nat → Obj → Prop} {item : Nat → Value → Prop} {n : Nat} {Ok : Heap → Prop} {news : List (Addr × Obj)} {o₀ : Obj} (It : Iter w A I it item n Ok) (J : Nat → List (Addr × Obj) → Prop)
    (F : Fr h₀ L s.heap m) (h0 : it 0 o₀) (N : News h₀ L s.heap ((I, o₀) :: news)) (hI : ∀ p ∈ news, p.1 ≠ I) (hj : J 0 news) (hs1 : ∀ x, foldedSetIterable i1 cenv x = pure x)
    (hok : ∀ k nx h, J k nx → Fr h₀ L h m → News h₀ L h nx → Ok h)
    (turn : ∀ k v nx h tk o, k < n → item k v → it (k + 1) o → J k nx → (∀ p ∈ nx, p.1 ≠ I) → Fr h₀ L h m → News h₀ L h ((I, o) :: nx) →
      wpAny (model prog w) A (assign t0 cenv v) (fun _ s₂ => wpAny (model prog w) A (eval i1 cenv) (fun x s₃ => wpAny (model prog w) A (pyIter x) (fun it2 s₄ =>
        codeAny (model prog w) A (.compStart (cmp2 elt t0 i0 t1 i1 f1 scope pos) 1 it2 acc cenv) (fun r s₅ => match r with | .ok _ => CEnd h₀ L m { s with heap := h, toks := tk } I o (J (k + 1)) s₅ | .error _ => False) s₄) NoE s₃) NoE s₂) NoE { s with heap := h, toks := tk })
    (done : ∀ nx h tk, J n nx → Fr h₀ L h m → News h₀ L h nx → R (.ok .next) { s with heap := h, toks := tk }) :
    codeAny (model prog w) A (.compLoop (cmp2 elt t0 i0 t1 i1 f1 scope pos) 0 (.ref I) acc cenv) R s := by
  have nL : ∀ {h o} {nx : List (Addr × Obj)}, News h₀ L h ((I, o) :: nx) → L ≠ I := fun N => (N _ (.head _)).2.1.symm
  have n0 : h₀.get? I = none := (N _ (.head _)).2.2
  refine codeAny_loop rfl (fun k s' => ∃ i nx h tk o, k = n - i ∧ i ≤ n ∧ s' = { s with heap := h, toks := tk } ∧ J i nx ∧ (∀ p ∈ nx, p.1 ≠ I) ∧ it i o ∧ Fr h₀ L h m ∧ News h₀ L h ((I, o) :: nx)) ?_ n ⟨0, news, s.heap, s.toks, o₀, rfl, Nat.zero_le _, rfl, hj, hI, h0, F, N⟩
  rintro k s' ⟨i, nx, h, tk, o, rfl, hi, rfl, hJ, hoff, hio, F', N'⟩
  show wpAny _ A ((compTurn (cmp2 elt t0 i0 t1 i1 f1 scope pos) 0 (.ref I) acc cenv).onRaise (fun x => do noteFrame x cenv; theTreesLotGoes x)) _ _ _
  refine wpAny_noted (wpAny_noRaise ?_)
  rw [turn2_0]
  have Nx : News h₀ L h nx := fun p hp => N' p (.tail _ hp)
  have ok := hok i nx h hJ F' Nx
  refine wpAny_bind (wpAny_standAt (wpAny_bind ?_))
  by_cases hlt : i < n
  · refine It.next i o _ _ _ hlt hio (N' _ (.head _)).1 ok fun v h₁ tk₁ o₁ hv hio₁ hI₁ hs₁ => ?_
    have F₁ := frSameBut F' hs₁.extBut (nL N') n0
    have N₁ : News h₀ L h₁ ((I, o₁) :: nx) := fun p hp => by
      rcases List.mem_cons.mp hp with rfl | hp
      · exact ⟨hI₁, (N' _ (.head _)).2⟩
      · exact newsSameBut Nx hs₁.extBut hoff p hp
    refine wpAny_bind (It.quiet (i + 1) o₁ _ t0 v _ _ hio₁ (by exact hI₁) ?_)
    have fin : ∀ {s₃}, CEnd h₀ L m { s with heap := h₁, toks := tk₁ } I o₁ (J (i + 1)) s₃ → ∃ mm, mm < n - i ∧ ∃ i' nx h tk o, mm = n - i' ∧ i' ≤ n ∧ s₃ = { s with heap := h, toks := tk } ∧ J i' nx ∧ (∀ p ∈ nx, p.1 ≠ I) ∧ it i' o ∧ Fr h₀ L h m ∧ News h₀ L h ((I, o) :: nx) := by
      rintro s₃ ⟨h', tk', nx', rfl, F₂, N₂, ho, hJ₂⟩
      exact ⟨n - (i + 1), by omega, i + 1, nx', h', tk', o₁, rfl, hlt, rfl, hJ₂, ho, hio₁, F₂, N₂⟩
    refine wpAny_bind (wpAny_mono (turn i v nx h₁ tk₁ o₁ hlt hv hio₁ hJ hoff F₁ N₁) (fun _ s₂ h₂ => wpAny_bind (wpAny_pure ?_)) fun _ _ e => e)
    refine wpAny_bind (wpAny_mono h₂ (fun x s₃ h₃ => wpAny_bind (wpAny_standAt (wpAny_bind (wpAny_of_eq (hs1 x) (wpAny_bind (wpAny_holding (wpAny_mono h₃ (fun it2 s₄ h₄ => ?_) fun _ _ e => e))))))) fun _ _ e => e)
    refine wpAny_bind (wpAny_runOwn (codeAny_mono h₄ fun r s₅ h₅ => ?_))
    cases r with
    | ok f => exact wpAny_pure ⟨rfl, fin h₅⟩
    | error x => exact h₅.elim
  · have hin : i = n := by omega
    subst hin
    refine It.done o _ _ _ hio (N' _ (.head _)).1 ok fun h₁ hs₁ => wpAny_pure ?_
    exact done nx h₁ tk hJ (frSameBut F' hs₁ (nL N') n0) (newsSameBut Nx hs₁ hoff)

theorem startC0 {it acc : Value} (hself : ∀ E, wpAny (model prog w) A (pyIter it) (fun it' s' => it' = it ∧ s' = s) E s) (h : codeAny (model prog w) A (.compLoop (cmp2 elt t0 i0 t1 i1 f1 scope pos) 0 it acc cenv) R s) :
    codeAny (model prog w) A (.compStart (cmp2 elt t0 i0 t1 i1 f1 scope pos) 0 it acc cenv) R s :=
  codeAny_compStart_list h (wpAny_mono (hself _) (fun it' s' q => by obtain ⟨rfl, rfl⟩ := q; exact h) fun _ _ e => e)
theorem startC1 {it acc : Value} (hself : ∀ E, wpAny (model prog w) A (pyIter it) (fun it' s' => it' = it ∧ s' = s) E s) (h0 : codeAny (model prog w) A (.compLoop (cmp2 elt t0 i0 t1 i1 f1 scope pos) 1 it acc cenv) R s) :
    codeAny (model prog w) A (.compStart (cmp2 elt t0 i0 t1 i1 f1 scope pos) 1 it acc cenv) R s := by
  have h : wpAny (model prog w) A (pyIter it) (fun it' s' => codeAny (model prog w) A (.compLoop (cmp2 elt t0 i0 t1 i1 f1 scope pos) 1 it' acc cenv) R s') (notedBy (model prog w) A cenv fun x s' => R (.error x) s') s :=
    wpAny_mono (hself _) (fun it' s' q => by obtain ⟨rfl, rfl⟩ := q; exact h0) fun _ _ e => e
  refine codeAny_of_tree ?_
  show wpAny _ _ ((compStart (cmp2 elt t0 i0 t1 i1 f1 scope pos) 1 it acc cenv).onRaise (fun x => do noteFrame x cenv; standAt theWindowsPlace)) _ _ s
  refine wpAny_notedAt ?_
  unfold compStart
  show wpAny _ _ (ask >>= _) _ _ s
  refine wpAny_bind (wpAny_askSetting (wpAny_ite ?_))
  split
  · first
      | exact wpAny_bind (wpAny_pure (wpAny_pure (And.intro rfl h0)))
      | exact wpAny_pure (And.intro rfl h0)
  · first
      | exact wpAny_bind (wpAny_rule (wpAny_bind (wpAny_standAt (wpAny_bind (wpAny_mono h (fun it' s' h' => wpAny_pure (And.intro rfl h')) fun _ _ x => x)))))
      | (refine wpAny_bind (wpAny_rule ?_); show wpAny _ _ (standAt i1.pos >>= _) _ _ s; exact wpAny_bind (wpAny_standAt (wpAny_bind (wpAny_mono h (fun it' s' h' => wpAny_pure (And.intro rfl h')) fun _ _ x => x))))

def CDone (h₀ : Heap) (L C : Addr) (m : Str → Option Value) (s : Shared) (Fin : List (Addr × Obj) → Prop) (r : Result) (s' : Shared) : Prop :=
  match r with
  | .ok _ => ∃ h' tk' oC' mC nx, s' = { s with heap := h', toks := tk' } ∧ LCg.NsObj oC' mC ∧ Fr h₀ L h' m ∧ News h₀ L h' ((C, oC') :: nx) ∧ (∀ p ∈ nx, p.1 ≠ C) ∧ Fin nx
  | .error _ => False

section
variable {env : Env} {cl : List (Str × Addr)} {E : Value → Shared → Prop}
theorem comp_open {e : PySem.Expr} {it : Value} {news : List (Addr × Obj)} {RR : Value → Addr → Result → Shared → Prop} (F : Fr h₀ L s.heap m) (N : News h₀ L s.heap news) (hcell : ∀ y ∈ scope.names, y.2 ≠ .cell) (hkind : scope.kind = .function)
    (h : ∀ C oC mC D h tk, LCg.NsObj oC mC → Fr h₀ L h m → News h₀ L h ((C, oC) :: (D, LCg.lst []) :: news) → (∀ p ∈ news, p.1 < D) → D < C → codeAny (model prog w) A (.compStart e 0 it (.ref D) (compEnvC scope cl C env)) (RR (.ref D) C) { s with heap := h, toks := tk }) :
    wpAny (model prog w) A (newList []) (fun acc s₃ => wpAny (model prog w) A (newFunctionEnv scope env.globals cl [] env.qual none .none (some env)) (fun cenv s₄ =>
      codeAny (model prog w) A (.compStart e 0 it acc { cenv with scope := relabel scope env }) (RR acc cenv.locals) s₄) E s₃) E s := by
  refine wpAny_newObj_type (wpAny_newFunctionEnv hcell (by intro y hy; simp at hy) (fun h₁ hns₁ hsb₁ => ?_) hkind)
  dsimp only at hns₁ hsb₁ ⊢
  have F2 := F.push { cls := .type "list", dict := none, data := .seq ([] : List Value).toArray }
  have N2 := N.push F { cls := .type "list", dict := none, data := .seq ([] : List Value).toArray }
  generalize hH2 : s.heap.push { cls := .type "list", dict := none, data := .seq ([] : List Value).toArray } = H2 at *
  have hC : H2.objs.size = s.heap.objs.size + 1 := by rw [← hH2, Heap.size_push]
  have old : ∀ b o, H2.get? b = some o → h₁.get? b = some o := fun b o e => hsb₁.extBut b o (Nat.ne_of_lt (Heap.lt_size e)) (Heap.get?_push_of_some _ e)
  obtain ⟨oC, hgC, hoC⟩ := LCg.ns_obj hns₁
  have hlt : s.heap.objs.size < H2.objs.size := by rw [hC]; exact Nat.lt_succ_self _
  exact h H2.objs.size oC _ s.heap.objs.size h₁ _ hoC (F2.keeps old) (newsNew F2 (N2.grown old) hgC (fresh_of (Nat.le_refl _))) (fun p hp => Heap.lt_size (N p hp).1) hlt

theorem eval_cmp2 {Q : Value → Shared → Prop} (_F : Fr h₀ L s.heap m) (hclos : closureFor scope env = pure cl) (hcell : ∀ y ∈ scope.names, y.2 ≠ .cell) (hkind : scope.kind = .function)
    (hnames : ∀ y ∈ scope.names, y.2 = .local → scope.names.lookup y.1 = some .local)
    (h : wpAny (model prog w) A (eval i0 env) (fun xv s₁ => wpAny (model prog w) A (pyIter xv) (fun it s₂ => ∃ news, Fr h₀ L s₂.heap m ∧ News h₀ L s₂.heap news ∧
      ∀ C oC mC D h tk, LCg.NsObj oC mC → Fr h₀ L h m → News h₀ L h ((C, oC) :: (D, LCg.lst []) :: news) → (∀ p ∈ news, p.1 < D) → D < C →
        codeAny (model prog w) A (.compStart (cmp2 elt t0 i0 t1 i1 f1 scope pos) 0 it (.ref D) (compEnvC scope cl C env))
          (CDone h₀ L C m s₂ fun nx => ∀ h'' tk', Fr h₀ L h'' m → News h₀ L h'' nx → Q (.ref D) { s₂ with heap := h'', toks := tk' }) { s₂ with heap := h, toks := tk }) NoE s₁) NoE s)
    (hs : ∀ x, foldedSetIterable i0 env x = pure x := by intro _; rfl) :
    wpAny (model prog w) A (eval (cmp2 elt t0 i0 t1 i1 f1 scope pos) env) Q NoE s := by
  rw [eval_ListComp]
  refine wpAny_comprehension_free (use := none) rfl hs hclos hkind hnames (wpAny_mono h (fun xv s₁ h₁ => wpAny_mono h₁ (fun it s₂ h₂ => ?_) fun _ _ e => e) fun _ _ e => e)
  obtain ⟨news, F, N, k⟩ := h₂
  refine comp_open (RR := fun acc C => compPost (model prog w) A NoE none Q acc C) F N hcell hkind fun C oC mC D h tk hC F₁ N₁ l1 l2 => codeAny_mono (k C oC mC D h tk hC F₁ N₁ l1 l2) fun r s' hr => ?_
  cases r with
  | error x => exact hr.elim
  | ok f =>
    obtain ⟨h', tk', oC', mC', nx, rfl, hC', F₂, N₂, off, fin⟩ := hr
    have z := N₂ _ (.head _)
    exact ⟨mC', hC'.ns z.1, fun h'' hs'' => fin h'' tk' (F₂.change hs'' z.2.1 z.2.2) fun p hp => ⟨hs''.extBut _ _ (off p hp) (N₂ p (.tail _ hp)).1, (N₂ p (.tail _ hp)).2⟩⟩

theorem assign_cmp2 {y : Str} {py spos : Pos} {Q : Flow → Shared → Prop} (_F : Fr h₀ L s.heap m) (hLe : env.locals = L) (hsw : swapsWith (cmp2 elt t0 i0 t1 i1 f1 scope pos) (some (.Name y py)) spos.line env = pure true)
    (hclos : closureFor scope env = pure cl) (hcell : ∀ y ∈ scope.names, y.2 ≠ .cell) (hkind : scope.kind = .function)
    (hnames : ∀ y ∈ scope.names, y.2 = .local → scope.names.lookup y.1 = some .local)
    (hy : env.kindOf y = some .local) (hp : (env.scope.kind == .class || (env.scope.kind == .module && env.locals != env.globals)) = false)
    (h : wpAny (model prog w) A (eval i0 env) (fun xv s₁ => wpAny (model prog w) A (pyIter xv) (fun it s₂ => ∃ news, Fr h₀ L s₂.heap m ∧ News h₀ L s₂.heap news ∧
      ∀ C oC mC D h tk, LCg.NsObj oC mC → Fr h₀ L h m → News h₀ L h ((C, oC) :: (D, LCg.lst []) :: news) → (∀ p ∈ news, p.1 < D) → D < C →
        codeAny (model prog w) A (.compStart (cmp2 elt t0 i0 t1 i1 f1 scope pos) 0 it (.ref D) (compEnvC scope cl C env))
          (CDone h₀ L C m s₂ fun nx => ∀ h'' tk', Fr h₀ L h'' (fun z => if z = y then some (.ref D) else m z) → News h₀ L h'' nx → Q .next { s₂ with heap := h'', toks := tk' }) { s₂ with heap := h, toks := tk }) NoE s₁) NoE s)
    (hs : ∀ x, foldedSetIterable i0 env x = pure x := by intro _; rfl) :
    wpAny (model prog w) A (exec (.Assign [.Name y py] (cmp2 elt t0 i0 t1 i1 f1 scope pos) spos) env) Q NoE s := by
  subst hLe
  rw [exec_Assign_Name_used _ _ _ _ hsw]
  refine wpAny_bind (wpAny_standAt (wpAny_bind ?_))
  show wpAny _ A (do let _ ← comprehension (cmp2 elt t0 i0 t1 i1 f1 scope pos) scope env _ (newList []) false (eval i0 env) (some (assign (.Name y py) env))) _ _ s
  refine wpAny_bind (wpAny_mono (wpAny_comprehension_free (use := some (assign (.Name y py) env)) (Q := fun _ s' => Q .next s') rfl hs hclos hkind hnames
    (wpAny_mono h (fun xv s₁ h₁ => wpAny_mono h₁ (fun it s₂ h₂ => ?_) fun _ _ e => e) fun _ _ e => e)) (fun _ s' hq => wpAny_pure (wpAny_pure hq)) fun _ _ e => e)
  obtain ⟨news, F, N, k⟩ := h₂
  refine comp_open (RR := fun acc C => compPost (model prog w) A NoE (some (assign (.Name y py) env)) (fun _ s' => Q .next s') acc C) F N hcell hkind fun C oC mC D h tk hC F₁ N₁ l1 l2 => codeAny_mono (k C oC mC D h tk hC F₁ N₁ l1 l2) fun r s' hr => ?_
  cases r with
  | error x => exact hr.elim
  | ok f =>
    obtain ⟨h', tk', oC', mC', nx, rfl, hC', F₂, N₂, off, fin⟩ := hr
    have z := N₂ _ (.head _)
    show wpAny _ A (assign (.Name y py) env (.ref D)) _ _ _
    refine wpAny_assign_Name (wpAny_storeName_local hy F₂.ns (fun h₂ hn₂ hs₂ => ?_) hp)
    have F₃ := F₂.set hn₂ hs₂
    have N₃ := N₂.set hs₂
    have z₃ := N₃ _ (.head _)
    exact ⟨mC', hC'.ns z₃.1, fun h'' hs'' => fin h'' _ (F₃.change hs'' z.2.1 z.2.2) fun p hp => ⟨hs''.extBut _ _ (off p hp) (N₃ p (.tail _ hp)).1, (N₃ p (.tail _ hp)).2⟩⟩
end
end
end Mine
end
section
open PySem PySem.W PySem.Spec PySem.Calls PyProof.Rows
namespace Mine
set_option maxRecDepth 100000
set_option maxHeartbeats 1000000

abbrev tupO (us : List Value) : Obj := { cls := .type "tuple", data := .seq us.toArray }
/-- refs to tuples of ints -/
inductive Tups (P : Addr → List Value → Prop) : List Value → List (List Int) → Prop
  | nil : Tups P [] []
  | cons {a : Addr} {us : List Value} {ws : List Int} {vs : List Value} {wss : List (List Int)} : P a us → IntsAre us ws → Tups P vs wss → Tups P (.ref a :: vs) (ws :: wss)
theorem Tups.mono {P P' : Addr → List Value → Prop} (h : ∀ a us, P a us → P' a us) : ∀ {vs wss}, Tups P vs wss → Tups P' vs wss
  | _, _, .nil => .nil
  | _, _, .cons p i r => .cons (h _ _ p) i (r.mono h)
theorem Tups.snoc {P : Addr → List Value → Prop} {a us ws} (p : P a us) (i : IntsAre us ws) : ∀ {vs wss}, Tups P vs wss → Tups P (vs ++ [.ref a]) (wss ++ [ws])
  | _, _, .nil => .cons p i .nil
  | _, _, .cons p' i' r => .cons p' i' (r.snoc p i)
theorem Tups.length {P : Addr → List Value → Prop} : ∀ {vs wss}, Tups P vs wss → vs.length = wss.length
  | _, _, .nil => rfl
  | _, _, .cons _ _ r => by rw [List.length_cons, List.length_cons, r.length]
theorem Tups.at {P : Addr → List Value → Prop} : ∀ {vs wss}, Tups P vs wss → ∀ (k : Nat) (v : Value), vs[k]? = some v → ∃ a us ws, v = .ref a ∧ P a us ∧ IntsAre us ws ∧ wss[k]? = some ws
  | _, _, .nil, k, v, h => by simp at h
  | _, _, .cons p i r, 0, v, h => by simp at h; exact ⟨_, _, _, h.symm, p, i, by simp⟩
  | _, _, .cons p i r, k + 1, v, h => by
    obtain ⟨a, us, ws, e, p', i', q⟩ := r.at k v (by simpa using h)
    exact ⟨a, us, ws, e, p', i', by simpa using q⟩
theorem Tups.get {P : Addr → List Value → Prop} : ∀ {vs wss}, Tups P vs wss → ∀ (k : Nat) (ws : List Int), wss[k]? = some ws → ∃ a us, vs[k]? = some (.ref a) ∧ P a us ∧ IntsAre us ws
  | _, _, .nil, k, v, h => by simp at h
  | _, _, .cons p i r, 0, v, h => by simp at h; subst h; exact ⟨_, _, by simp, p, i⟩
  | _, _, .cons p i r, k + 1, v, h => by
    obtain ⟨a, us, e, p', i'⟩ := r.get k v (by simpa using h)
    exact ⟨a, us, by simpa using e, p', i'⟩

theorem newsSub {h₀ h : Heap} {L : Addr} {a b : List (Addr × Obj)} (N : News h₀ L h a) (sub : ∀ p ∈ b, p ∈ a) : News h₀ L h b := fun p hp => N p (sub p hp)

section
variable {w : World} {A : Around} {s : Shared} {h₀ : Heap} {L : Addr} {m : Str → Option Value} {env : Env} {scope : Scope} {cl : List (Str × Addr)}
theorem count_tuple_ints {E : Value → Shared → Prop} {l : Addr} {vs : List Value} {ns : List Int} {k : Int} {t : Tok} {Q : Value → Shared → Prop} (hl : s.heap.get? l = some (tupO vs)) (hi : IntsAre vs ns)
    (h : Q (.int (ns.count k : Nat) s.toks) { s with toks := s.toks + 1 }) : wpAny (model prog w) A (call (.builtin "tuple.count") [.ref l, .int k t]) Q E s := by
  refine call_meets PySem.F.slot_tuple_count ⟨_, hl, rfl⟩ PySem.F.entry_tuple_count (PySem.F.args_tuple_count_2 _ _) (PySem.SeqAt.tuple_countAt l vs.toArray 0 none #[] (.int k t) (isInt k)) ⟨hl, fun y hy => (eq_isInt k t hi y (by simpa using hy)).at _ _, ?_⟩
  rw [show vs.toArray.toList = vs from rfl, countP_isInt k hi]
  exact h

/-- store a name of a comprehension's own -/
theorem storeC {x : Str} {v : Value} {C : Addr} {oC : Obj} {mC : Str → Option Value} {rest : List (Addr × Obj)} {Q : Unit → Shared → Prop} {E : Value → Shared → Prop} (hkind : scope.kind = .function) (hx : scope.names.lookup x = some .local)
    (F : Fr h₀ L s.heap m) (N : News h₀ L s.heap ((C, oC) :: rest)) (hC : LCg.NsObj oC mC) (off : ∀ p ∈ rest, p.1 ≠ C)
    (h : ∀ h' oC' tk, LCg.NsObj oC' (fun z => if z = x then some v else mC z) → Fr h₀ L h' m → News h₀ L h' ((C, oC') :: rest) → Q () { s with heap := h', toks := tk }) :
    wpAny (model prog w) A (storeName (compEnvC scope cl C env) x v) Q E s := by
  have z := N _ (.head _)
  refine wpAny_storeName_local (lookup_relabel_local hx) (hC.ns z.1) (fun h₃ hn₃ hs₃ => ?_) (by simp [compEnvC, relabel, hkind])
  obtain ⟨oC', heC, hoC⟩ := LCg.ns_obj hn₃
  refine h h₃ oC' _ hoC (F.change hs₃ z.2.1 z.2.2) fun p hp => ?_
  rcases List.mem_cons.mp hp with rfl | hp
  · exact ⟨heC, z.2⟩
  · exact ⟨hs₃.extBut _ _ (off p hp) (N p (.tail _ hp)).1, (N p (.tail _ hp)).2⟩
theorem assignC {x : Str} {px : Pos} {v : Value} {C : Addr} {oC : Obj} {mC : Str → Option Value} {rest : List (Addr × Obj)} {Q : Unit → Shared → Prop} {E : Value → Shared → Prop} (hkind : scope.kind = .function) (hx : scope.names.lookup x = some .local)
    (F : Fr h₀ L s.heap m) (N : News h₀ L s.heap ((C, oC) :: rest)) (hC : LCg.NsObj oC mC) (off : ∀ p ∈ rest, p.1 ≠ C)
    (h : ∀ h' oC' tk, LCg.NsObj oC' (fun z => if z = x then some v else mC z) → Fr h₀ L h' m → News h₀ L h' ((C, oC') :: rest) → Q () { s with heap := h', toks := tk }) :
    wpAny (model prog w) A (assign (.Name x px) (compEnvC scope cl C env) v) Q E s :=
  wpAny_assign_Name (storeC hkind hx F N hC off h)
theorem assignC2 {x y : Str} {px py pt : Pos} {kk} {u v : Value} {C T : Addr} {oC : Obj} {mC : Str → Option Value} {rest : List (Addr × Obj)} {Q : Unit → Shared → Prop} {E : Value → Shared → Prop} (hh : A.handled = none) (hkind : scope.kind = .function)
    (hx : scope.names.lookup x = some .local) (hy : scope.names.lookup y = some .local) (hT : s.heap.get? T = some (tupO [u, v]))
    (F : Fr h₀ L s.heap m) (N : News h₀ L s.heap ((C, oC) :: rest)) (hC : LCg.NsObj oC mC) (off : ∀ p ∈ rest, p.1 ≠ C)
    (h : ∀ h' oC' tk, LCg.NsObj oC' (fun z => if z = y then some v else if z = x then some u else mC z) → Fr h₀ L h' m → News h₀ L h' ((C, oC') :: rest) → Q () { s with heap := h', toks := tk }) :
    wpAny (model prog w) A (assign (.Tuple [.Name x px, .Name y py] kk pt) (compEnvC scope cl C env) (.ref T)) Q E s := by
  refine wpAny_assign_Tuple hh ⟨_, hT, rfl, _, rfl⟩ rfl rfl fun h₃ hx₃ => ?_
  have up : ∀ b o, s.heap.get? b = some o → h₃.get? b = some o := fun b o e => hx₃ b o (Nat.ne_of_lt (Heap.lt_size e)) e
  show wpAny _ A (do holding [v] (assign (.Name x px) _ u); do holding [] (assign (.Name y py) _ v); pure ()) _ _ _
  refine wpAny_bind (wpAny_holding (assignC hkind hx (F.keeps up) (N.grown up) hC off fun h₄ oC₄ tk₄ hC₄ F₄ N₄ => ?_))
  refine wpAny_bind (wpAny_holding (assignC hkind hy F₄ N₄ hC₄ off fun h₅ oC₅ tk₅ hC₅ F₅ N₅ => wpAny_pure ?_))
  exact h h₅ oC₅ tk₅ hC₅ F₅ N₅
theorem appendD {D : Addr} {ys : List Value} {y : Value} {rest : List (Addr × Obj)} {Q : Value → Shared → Prop} {E : Value → Shared → Prop} (F : Fr h₀ L s.heap m) (N : News h₀ L s.heap ((D, LCg.lst ys) :: rest)) (off : ∀ p ∈ rest, p.1 ≠ D) (hsz : ys.length ≤ 100000)
    (h : ∀ h', Fr h₀ L h' m → News h₀ L h' ((D, LCg.lst (ys ++ [y])) :: rest) → Q .none { s with heap := h' }) :
    wpAny (model prog w) A (call (.builtin "list.append") [.ref D, y]) Q E s := by
  have z := N _ (.head _)
  refine append_at (hsz := by show ys.toArray.size ≤ sizeLine; rw [List.size_toArray]; exact Nat.le_trans hsz (by decide)) z.1 fun h₅ hs₅ hD₅ => ?_
  refine h h₅ (F.change hs₅ z.2.1 z.2.2) fun p hp => ?_
  rcases List.mem_cons.mp hp with rfl | hp
  · exact ⟨hD₅.trans (congrArg some (LCg.lst_snoc ys y)), z.2⟩
  · exact ⟨hs₅.extBut _ _ (off p hp) (N p (.tail _ hp)).1, (N p (.tail _ hp)).2⟩
theorem self_list {I : Addr} {l : Addr} {k : Nat} {o : Obj} (ho : s.heap.get? I = some o) (hc : o.cls = .type "list_iterator" ∧ o.data = .fields #[.ref l, .int (k : Int) 0]) (E : Value → Shared → Prop) :
    wpAny (model prog w) A (pyIter (.ref I)) (fun it' s' => it' = .ref I ∧ s' = s) E s := wpAny_pyIter_listiter ⟨o, ho, hc.1, hc.2⟩ ⟨rfl, rfl⟩
end
end Mine
end
section
open PySem PySem.W PySem.Spec PySem.Calls PyProof.Rows
namespace Mine
set_option maxRecDepth 100000
set_option maxHeartbeats 8000000
theorem fill9 : (PySem.Challenge.rw_sn0080_01.row.prog = PySem.Challenge.rw_sn0080_01.row.prog) ∧ (Mine.K0 = Mine.K0) := by k_fill; exact ⟨rfl, rfl⟩

def wgrow (kinds : List (Int × Int)) (word : List Int) : List (List Int) := (kinds.filter fun p => decide ((word.count p.1 : Int) < p.2)).map fun p => word ++ [p.1]
def wstep (kinds : List (Int × Int)) (words : List (List Int)) : List (List Int) := words.flatMap (wgrow kinds)
def wordsOf (kinds : List (Int × Int)) : Nat → List (List Int)
  | 0 => [[]]
  | k + 1 => wstep kinds (wordsOf kinds k)
def pr (p : Int × Int) : List Int := [p.1, p.2]
abbrev inH (h : Heap) (a : Addr) (us : List Value) : Prop := h.get? a = some (tupO us)
abbrev inL (ts : List (Addr × Obj)) (a : Addr) (us : List Value) : Prop := (a, tupO us) ∈ ts
def FreshTups (h : Heap) (v : Value) (h' : Heap) (wss : List (List Int)) : Prop := ∃ a vs n tl, v = .ref a ∧ h.get? a = none ∧ h'.get? a = some (W.listOf vs.toArray n) ∧ Tups (inL tl) vs wss ∧ ∀ p ∈ tl, h'.get? p.1 = some p.2 ∧ h.get? p.1 = none

theorem wgrow_yes {kinds : List (Int × Int)} {word : List Int} {p : Int × Int} (h : ((word.count p.1 : Nat) : Int) < p.2) : wgrow (kinds ++ [p]) word = wgrow kinds word ++ [word ++ [p.1]] := by
  unfold wgrow; rw [List.filter_append, List.map_append]; simp [h]
theorem wgrow_no {kinds : List (Int × Int)} {word : List Int} {p : Int × Int} (h : ¬ ((word.count p.1 : Nat) : Int) < p.2) : wgrow (kinds ++ [p]) word = wgrow kinds word := by
  unfold wgrow; rw [List.filter_append, List.map_append]; simp [h]
theorem wstep_snoc (kinds : List (Int × Int)) (l : List (List Int)) (x : List Int) : wstep kinds (l ++ [x]) = wstep kinds l ++ wgrow kinds x := by
  unfold wstep; rw [List.flatMap_append]; simp
theorem wstep_part {kinds : List (Int × Int)} {W : List (List Int)} {k' k'' : Nat} {word : List Int} (h : W[k']? = some word) : (wstep kinds (W.take k') ++ wgrow (kinds.take k'') word).length ≤ (wstep kinds W).length := by
  have e : W = W.take k' ++ word :: W.drop (k' + 1) := by
    obtain ⟨h1, h2⟩ := List.getElem?_eq_some_iff.mp h
    rw [← h2, ← List.drop_eq_getElem_cons h1, List.take_append_drop]
  have e2 : (wstep kinds W) = wstep kinds (W.take k') ++ (wgrow kinds word ++ wstep kinds (W.drop (k' + 1))) := by
    conv => lhs; rw [e]
    unfold wstep; rw [List.flatMap_append, List.flatMap_cons]
  have e3 : (wgrow (kinds.take k'') word).length ≤ (wgrow kinds word).length := by
    unfold wgrow
    rw [List.length_map, List.length_map]
    exact ((List.take_sublist k'' kinds).filter _).length_le
  rw [e2]
  simp only [List.length_append]
  omega
theorem wordsOf_len (kinds : List (Int × Int)) : ∀ k, ∀ x ∈ wordsOf kinds k, x.length = k
  | 0, x, h => by simp [wordsOf] at h; subst h; rfl
  | k + 1, x, h => by
    simp only [wordsOf, wstep, wgrow, List.mem_flatMap, List.mem_map] at h
    obtain ⟨y, hy, p, _, rfl⟩ := h
    rw [List.length_append, wordsOf_len kinds k y hy]; rfl

theorem app_end {w : World} {A : Around} {s s₀ : Shared} {h₀ : Heap} {L C D I2 I3 I R ta : Addr} {m mC : Str → Option Value} {oC o₃ : Obj} {ys uw : List Value} {ts' tail : List (Addr × Obj)} {wss : List (List Int)} {ws : List Int}
    (hs : s = { s₀ with heap := s.heap, toks := s.toks }) (F : Fr h₀ L s.heap m) (N : News h₀ L s.heap ((R, tupO uw) :: (C, oC) :: (I3, o₃) :: (D, LCg.lst ys) :: (ts' ++ tail))) (hR : R ≠ C ∧ R ≠ D ∧ R ≠ I2 ∧ R ≠ I3 ∧ R ≠ I)
    (hCD : C ≠ D) (hID : I3 ≠ D) (hCI : C ≠ I3) (offt : ∀ p ∈ tail, p.1 ≠ D ∧ p.1 ≠ I3) (off : ∀ p ∈ ts', p.1 ≠ C ∧ p.1 ≠ D ∧ p.1 ≠ I2 ∧ p.1 ≠ I3 ∧ p.1 ≠ I) (hlen : ys.length ≤ 100000) (hC : LCg.NsObj oC mC) (hm : mC (Str.ofString "word") = some (.ref ta))
    (hT : Tups (inL ts') ys wss) (hi : IntsAre uw ws) :
    wpAny (model prog w) A (call (.builtin "list.append") [.ref D, .ref R]) (fun _ s₅ => CEnd h₀ L m s₀ I3 o₃ (fun nx => ∃ oC mC ys ts', nx = (C, oC) :: (D, LCg.lst ys) :: (ts' ++ tail) ∧ LCg.NsObj oC mC ∧ mC (Str.ofString "word") = some (.ref ta) ∧ (∀ p ∈ ts', p.1 ≠ C ∧ p.1 ≠ D ∧ p.1 ≠ I2 ∧ p.1 ≠ I3 ∧ p.1 ≠ I) ∧
        Tups (inL ts') ys (wss ++ [ws])) s₅) NoE s := by
  refine appendD F (newsSub N (b := (D, LCg.lst ys) :: (R, tupO uw) :: (C, oC) :: (I3, o₃) :: (ts' ++ tail)) ?_) ?_ hlen fun h' F' N' => ?_
  · intro p hp
    simp only [List.mem_cons] at hp ⊢
    rcases hp with hp | hp | hp | hp | hp <;> simp [hp]
  · intro p hp
    simp only [List.mem_cons, List.mem_append] at hp
    rcases hp with rfl | rfl | rfl | hp | hp
    · exact hR.2.1
    · exact hCD
    · exact hID
    · exact (off p hp).2.1
    · exact (offt p hp).1
  · refine ⟨h', s.toks, (C, oC) :: (D, LCg.lst (ys ++ [.ref R])) :: (((R, tupO uw) :: ts') ++ tail), by rw [hs], F', newsSub N' ?_, ?_, oC, mC, ys ++ [.ref R], (R, tupO uw) :: ts', rfl, hC, hm, ?_, ?_⟩
    · intro p hp
      simp only [List.mem_cons, List.mem_append] at hp ⊢
      rcases hp with hp | hp | hp | (hp | hp) | hp <;> simp [hp]
    · intro p hp
      simp only [List.mem_cons, List.mem_append] at hp
      rcases hp with rfl | rfl | (rfl | hp) | hp
      · exact hCI
      · exact hID.symm
      · exact hR.2.2.2.1
      · exact (off p hp).2.2.2.1
      · exact (offt p hp).2
    · intro p hp
      rcases List.mem_cons.mp hp with rfl | hp
      · exact hR
      · exact off p hp
    · exact (hT.mono fun _ _ h => .tail _ h).snoc (.head _) hi

theorem words_fn (w : World) (a : Addr) (kvs : List Value) (kinds : List (Int × Int)) (n : Nat) (t : Tok) (hn : n ≤ 8) (hk : kinds.length ≤ 4) (hb : ∀ k ≤ n, (wordsOf kinds k).length ≤ 1000) :
    Fn w 167 [.ref a, .int n t] 3 30 (fun h => h.IsList a kvs.toArray ∧ Tups (inH h) kvs (kinds.map pr)) (fun h v h' => FreshTups h v h' (wordsOf kinds n)) := by
  intro dp un fr gd s R g hd hu hpre hret
  obtain ⟨hl, hi⟩ := hpre
  (refine' enterHC (binds := [(Str.ofString "kinds", .ref a), (Str.ofString "size", .int n t)]) [] ?k0 ?ki ?k6 ?kd ?k7 ?k8 ?k9 ?kB ?kD ?_ ?c2 ?c3 ?c4; (case k0 => assumption); (case ki => exact List.forall_mem_nil _); (case k6 => exact fn_at (by assumption) (by k_is)); (case kd => with_unfolding_all exact rfl); (case k7 => exact codeRec_of (G.k (by assumption)) (by k_is)); (case k8 => exact Nat.lt_of_le_of_lt (Nat.le_add_right _ _) hd); (case k9 => first | exact BindsTo.of_eq rfl | exact binds_K (G.k (by assumption)) rfl (by k_is) rfl rfl rfl); (case kB => exact rfl); (case kD => decide +kernel); (case c2 => exact rfl); (case c3 => exact rfl); (case c4 => exact rfl); k_whole; intro L' h' tk' cells' vw lo mean mg mb F' N' Y' l0 X' T'; clear l0; k_cells Y'; (try simp only [List.cons_append, List.nil_append] at N'); (try dsimp only [List.map_nil, hideAll] at *))
  iterate 12 (first | (k_unfold; (try dsimp only)) | walk1 | (dsimp only; walk1))
  refine forI ?_ (by intro _; rfl)
  iterate 7 (first | (k_unfold; (try dsimp only)) | walk1 | (dsimp only; walk1))
  rename IsRange _ _ _ _ _ _ _ _ => hr
  rename Obj.data _ = _ => hcell
  replace hcell := hcell.trans (show _ = Data.cell (some (.ref a)) by kernel_rfl)
  rename News _ _ _ _ => N2
  rename Fr _ _ _ _ => F2
  refine iterRange (n := n) F2 N2 hr (by first | decide | exact small_one (by l_bnd) (by l_bnd) (by l_bnd) (by l_bnd)) (by have z := rangeSize_nat 0 (n : Int); simpa using z) ?_
  intro I o h₁ ho hI F N
  clear F2 N2 hr
  refine loopI (Iter.range rfl 0 n) (fun k m nx => ∃ l vs e oK ts, m (Str.ofString "words") = some (.ref l) ∧ oK.data = .cell (some (.ref a)) ∧ nx = (l, W.listOf vs.toArray e) :: (ts ++ [(L' + 1, oK)]) ∧ Tups (inL ts) vs (wordsOf kinds k)) F ho N (fun p hp => Nat.ne_of_lt (hI p hp)) ?_ (by intros; trivial) ?_ ?_
  · exact ⟨_, [.ref _], 0, _, [(_, tupO [])], rfl, hcell, rfl, .cons (List.Mem.head _) .nil .nil⟩
  · rintro k v m₁ nx h tk o hk hv hio ⟨l, vs, e, oK, ts, e1, hcell, rfl, hT⟩ hoff F N
    obtain ⟨t₁, rfl⟩ := hv
    have F' := frKnow F [(Str.ofString "words", _)] ⟨e1, trivial⟩
    clear F
    iterate 4 (first | (k_unfold; (try dsimp only)) | walk1 | (dsimp only; walk1))
    rename Fr _ _ _ _ => F
    rename News _ _ _ _ => N
    refine assign_cmp2 F rfl (by with_unfolding_all rfl) (by with_unfolding_all rfl) (by decide) (by rfl) (by decide) (by rfl) (by rfl) ?_
    (first | (k_unfold; (try dsimp only)) | walk1 | (dsimp only; walk1))
    refine iterList F N (l := l) ⟨_, (N _ (.tail _ (.head _))).1, rfl, e, rfl⟩ ?_
    intro I2 o2 h₂ ho2 hI2 F₂ N₂
    refine ⟨_, F₂, N₂, ?_⟩
    intro C oC mC D h₃ tk₃ hC F₃ N₃ lD lC
    have hIC : I2 ≠ C := Nat.ne_of_lt (Nat.lt_trans (lD _ (.head _)) lC)
    have hID : I2 ≠ D := Nat.ne_of_lt (lD _ (.head _))
    have hDC : D ≠ C := Nat.ne_of_lt lC
    have offb : ∀ p ∈ (I, o) :: (l, W.listOf vs.toArray e) :: (ts ++ [(L' + 1, oK)]), p.1 ≠ C ∧ p.1 ≠ D ∧ p.1 ≠ I2 := fun p hp =>
      ⟨Nat.ne_of_lt (Nat.lt_trans (lD p (.tail _ hp)) lC), Nat.ne_of_lt (lD p (.tail _ hp)), Nat.ne_of_lt (hI2 p hp)⟩
    have hbl : (l, W.listOf vs.toArray e) ∈ (I, o) :: (l, W.listOf vs.toArray e) :: (ts ++ [(L' + 1, oK)]) := .tail _ (.head _)
    have hbI : (I, o) ∈ (I, o) :: (l, W.listOf vs.toArray e) :: (ts ++ [(L' + 1, oK)]) := .head _
    have hbK : (L' + 1, oK) ∈ (I, o) :: (l, W.listOf vs.toArray e) :: (ts ++ [(L' + 1, oK)]) := .tail _ (.tail _ (List.mem_append_right _ (.head _)))
    have hT2 : Tups (inL ((I, o) :: (l, W.listOf vs.toArray e) :: (ts ++ [(L' + 1, oK)]))) vs (wordsOf kinds k) := hT.mono fun _ _ h => .tail _ (.tail _ (List.mem_append_left _ h))
    have hKI : L' + 1 ≠ I := hoff _ (.tail _ (List.mem_append_right _ (.head _)))
    clear F N F₂ N₂ hT lD lC hI2 hoff
    generalize (I, o) :: (l, W.listOf vs.toArray e) :: (ts ++ [(L' + 1, oK)]) = base at *
    refine startC0 (self_list (N₃ _ (.tail _ (.tail _ (.head _)))).1 ho2) ?_
    refine loopC0 (Iter.list (l := l) (items := vs.toArray) rfl) (fun k' nx => ∃ oC mC ys ts', nx = (C, oC) :: (D, LCg.lst ys) :: (ts' ++ base) ∧ LCg.NsObj oC mC ∧ (∀ p ∈ ts', p.1 ≠ C ∧ p.1 ≠ D ∧ p.1 ≠ I2 ∧ p.1 ≠ I) ∧ Tups (inL ts') ys (wstep kinds ((wordsOf kinds k).take k')))
      F₃ ho2 (newsSub N₃ (b := (I2, o2) :: (C, oC) :: (D, LCg.lst []) :: base) ?_) ?_ ⟨oC, mC, [], [], rfl, hC, (fun p hp => by cases hp), .nil⟩ (by intro _; rfl) ?_ ?_ ?_
    · intro p hp
      simp only [List.mem_cons] at hp ⊢
      rcases hp with hp | hp | hp | hp <;> simp [hp]
    · intro p hp
      rcases List.mem_cons.mp hp with rfl | hp
      · exact hIC.symm
      · rcases List.mem_cons.mp hp with rfl | hp
        · exact hID.symm
        · exact (offb p hp).2.2
    · rintro k' nx h ⟨oC, mC, ys, ts', rfl, -⟩ F N
      exact ⟨_, (N _ (.tail _ (.tail _ (List.mem_append_right _ hbl)))).1, rfl, e, rfl⟩
    · rintro k' v nx h₄ tk₄ o₄ hk' hv hio₂ ⟨oC, mC, ys, ts', rfl, hC, hoff', hT'⟩ hoff₂ F₄ N₄
      obtain ⟨ta, us, word, rfl, hin, hus, hw⟩ := hT2.at k' v (by simpa using hv)
      have offc : ∀ p ∈ (I2, o₄) :: (D, LCg.lst ys) :: (ts' ++ base), p.1 ≠ C := by
        intro p hp
        rcases List.mem_cons.mp hp with rfl | hp
        · exact hIC
        · rcases List.mem_cons.mp hp with rfl | hp
          · exact hDC
          · rcases List.mem_append.mp hp with hp | hp
            · exact (hoff' p hp).1
            · exact (offb p hp).1
      refine assignC rfl rfl F₄ (newsSub N₄ (b := (C, oC) :: (I2, o₄) :: (D, LCg.lst ys) :: (ts' ++ base)) ?_) hC offc fun h₅ oC₅ tk₅ hC₅ F₅ N₅ => ?_
      · intro p hp
        simp only [List.mem_cons] at hp ⊢
        rcases hp with hp | hp | hp | hp <;> simp [hp]
      refine lcf_cell N₅ (c := L' + 1) (o := oK) rfl (.tail _ (.tail _ (.tail _ (List.mem_append_right _ hbK)))) hcell ?_ rfl rfl
      refine iterList F₅ N₅ (l := a) (hl.at fun o e => F₅.keep _ _ e) ?_
      intro I3 o3 h₆ ho3 hI3 F₆ N₆
      refine startC1 (self_list (N₆ _ (.head _)).1 ho3) ?_
      have hI3' : ∀ p ∈ (C, oC₅) :: (I2, o₄) :: (D, LCg.lst ys) :: (ts' ++ base), p.1 ≠ I3 := fun p hp => Nat.ne_of_lt (hI3 p hp)
      clear hI3 N₅ F₅ F₄ N₄
      refine loopC1 (Iter.list (l := a) (items := kvs.toArray) rfl) (fun k'' nx => ∃ oC mC ys ts', nx = (C, oC) :: (D, LCg.lst ys) :: (ts' ++ (I2, o₄) :: base) ∧ LCg.NsObj oC mC ∧ mC (Str.ofString "word") = some (.ref ta) ∧ (∀ p ∈ ts', p.1 ≠ C ∧ p.1 ≠ D ∧ p.1 ≠ I2 ∧ p.1 ≠ I3 ∧ p.1 ≠ I) ∧
        Tups (inL ts') ys (wstep kinds ((wordsOf kinds k).take k') ++ wgrow (kinds.take k'') word)) F₆ ho3 (newsSub N₆ (b := (I3, o3) :: (C, oC₅) :: (D, LCg.lst ys) :: (ts' ++ (I2, o₄) :: base)) ?_) ?_ ⟨oC₅, _, ys, ts', rfl, hC₅, rfl, ?_, ?_⟩ ?_ ?_ ?_
      · intro p hp
        simp only [List.mem_cons, List.mem_append] at hp ⊢
        rcases hp with hp | hp | hp | hp | hp | hp <;> simp [hp]
      · intro p hp
        refine hI3' p ?_
        simp only [List.mem_cons, List.mem_append] at hp ⊢
        rcases hp with hp | hp | hp | hp | hp <;> simp [hp]
      · exact fun p hp => ⟨(hoff' p hp).1, (hoff' p hp).2.1, (hoff' p hp).2.2.1, hI3' p (.tail _ (.tail _ (.tail _ (List.mem_append_left _ hp)))), (hoff' p hp).2.2.2⟩
      · simpa [wgrow] using hT'
      · intro k' nx h _ F N
        exact hl.at fun o e => F.keep _ _ e
      · rintro k'' v nx h₇ tk₇ o₇ hk'' hv hio₃ ⟨oC, mC, ys, ts', rfl, hC, hmw, hoff', hT'⟩ hoff₃ F₇ N₇
        obtain ⟨tb, us2, ws2, rfl, hinb, hus2, hw2⟩ := hi.at k'' v (by simpa using hv)
        obtain ⟨p, hp, rfl⟩ : ∃ p, kinds[k'']? = some p ∧ pr p = ws2 := by
          rw [List.getElem?_map] at hw2
          cases q : kinds[k'']? with
          | none => rw [q] at hw2; cases hw2
          | some p => rw [q] at hw2; cases hw2; exact ⟨p, rfl, rfl⟩
        obtain ⟨t4, t5, rfl⟩ : ∃ t4 t5, us2 = [.int p.1 t4, .int p.2 t5] := by
          cases hus2 with
          | cons n1 u1 r1 => cases r1 with
            | cons n2 u2 r2 => cases r2; exact ⟨_, _, rfl⟩
        refine assignC2 rfl rfl rfl rfl (F₇.keep _ _ hinb) F₇ (newsSub N₇ (b := (C, oC) :: (I3, o₇) :: (D, LCg.lst ys) :: (ts' ++ (I2, o₄) :: base)) ?_) hC ?_ fun h₈ oC₈ tk₈ hC₈ F₈ N₈ => ?_
        · intro p hp
          simp only [List.mem_cons] at hp ⊢
          rcases hp with hp | hp | hp | hp <;> simp [hp]
        · intro q hq
          simp only [List.mem_cons, List.mem_append] at hq
          rcases hq with rfl | rfl | hq | rfl | hq
          · exact (hoff₃ (C, oC) (.head _)).symm
          · exact hDC
          · exact (hoff' q hq).1
          · exact hIC
          · exact (offb q hq).1
        refine wpAny_tests_one ?_
        have e1 : (fun z => if z = Str.ofString "most" then some (Value.int p.2 t5) else if z = Str.ofString "letter" then some (Value.int p.1 t4) else mC z) (Str.ofString "word") = some (.ref ta) := hmw
        have e2 : (fun z => if z = Str.ofString "most" then some (Value.int p.2 t5) else if z = Str.ofString "letter" then some (Value.int p.1 t4) else mC z) (Str.ofString "letter") = some (.int p.1 t4) := rfl
        have e3 : (fun z => if z = Str.ofString "most" then some (Value.int p.2 t5) else if z = Str.ofString "letter" then some (Value.int p.1 t4) else mC z) (Str.ofString "most") = some (.int p.2 t5) := rfl
        generalize (fun z => if z = Str.ofString "most" then some (Value.int p.2 t5) else if z = Str.ofString "letter" then some (Value.int p.1 t4) else mC z) = m8 at *
        iterate 4 (first | (k_unfold; (try dsimp only)) | walk1 | (dsimp only; walk1))
        have htg := (N₈ (ta, tupO us) (.tail _ (.tail _ (.tail _ (List.mem_append_right _ (.tail _ hin)))))).1
        refine getMethod_builtin ⟨_, htg, rfl⟩ PySem.F.plainAttrs_tuple PySem.F.slot_tuple_count PySem.F.type_tuple_count (fun a e => by cases e; exact ⟨_, htg, rfl⟩) ?_
        iterate 4 (first | (k_unfold; (try dsimp only)) | walk1 | (dsimp only; walk1))
        refine count_tuple_ints htg hus ?_
        (first | (k_unfold; (try dsimp only)) | walk1 | (dsimp only; walk1))
        (first | (k_unfold; (try dsimp only)) | walk1 | (dsimp only; walk1))
        (first | (k_unfold; (try dsimp only)) | walk1 | (dsimp only; walk1))
        k_unfold
        dsimp only
        have hl3 : kinds.take (k'' + 1) = kinds.take k'' ++ [p] := take_succ_of hp
        have offx : ∀ p ∈ (C, oC₈) :: (D, LCg.lst ys) :: (ts' ++ (I2, o₄) :: base), p.1 ≠ I3 := fun p hp => by
          rcases List.mem_cons.mp hp with rfl | hp
          · exact hoff₃ (C, oC) (.head _)
          · exact hoff₃ _ (.tail _ hp)
        by_cases hlt : ((word.count p.1 : Nat) : Int) < p.2
        · rw [if_pos (decide_eq_true hlt)]
          iterate 6 (first | (k_unfold; (try dsimp only)) | walk1 | (dsimp only; walk1))
          refine wpAny_newTuple ?_
          dsimp only
          have F₉ := F₈.push (tupO [.int p.1 t4])
          have N₉ := N₈.push F₈ (tupO [.int p.1 t4])
          have hz : ∀ p ∈ (C, oC₈) :: (I3, o₇) :: (D, LCg.lst ys) :: (ts' ++ (I2, o₄) :: base), p.1 ≠ h₈.objs.size := fun p hp => Nat.ne_of_lt (Heap.lt_size (N₈ p hp).1)
          have hlen : ys.length ≤ 100000 := by
            have z1 := wstep_part (kinds := kinds) (k'' := k'') hw
            have z2 := hb (k + 1) hk
            rw [hT'.length]
            exact Nat.le_trans z1 (Nat.le_trans z2 (by decide))
          have hus8 : us.length ≤ 8 := by
            rw [hus.length, wordsOf_len kinds k word (List.mem_of_getElem? hw)]; omega
          have hCI : C ≠ I3 := hoff₃ (C, oC) (.head _)
          have hID3 : I3 ≠ D := (hoff₃ (D, LCg.lst ys) (.tail _ (.head _))).symm
          have offt : ∀ p ∈ (I2, o₄) :: base, p.1 ≠ D ∧ p.1 ≠ I3 := fun p hp => ⟨by
            rcases List.mem_cons.mp hp with rfl | hp
            · exact hID
            · exact (offb p hp).2.1, hoff₃ p (.tail _ (.tail _ (List.mem_append_right _ hp)))⟩
          have hzI2 : h₈.objs.size ≠ I2 := (hz (I2, o₄) (.tail _ (.tail _ (.tail _ (List.mem_append_right _ (.head _)))))).symm
          refine add_tuples (vs := us) (ws := [.int p.1 t4]) F₉ N₉ ⟨_, (N₉ (ta, tupO us) (.tail _ (.tail _ (.tail _ (.tail _ (List.mem_append_right _ (.tail _ hin))))))).1, rfl, _, rfl⟩ ⟨_, (N₉ _ (.head _)).1, rfl, _, rfl⟩ ?_ ?_ ?_ ?_
          · rintro rfl
            cases hus
            (try dsimp only)
            rw [hl3, wgrow_yes hlt, ← List.append_assoc]
            exact app_end rfl F₉ N₉ ⟨(hz _ (.head _)).symm, (hz _ (.tail _ (.tail _ (.head _)))).symm, hzI2, (hz _ (.tail _ (.head _))).symm, (hz (I, o) (.tail _ (.tail _ (.tail _ (List.mem_append_right _ (.tail _ hbI)))))).symm⟩ hDC.symm hID3 hCI offt hoff' hlen hC₈ e1 hT' (.cons _ _ .nil)
          · intro _ e; cases e
          · intro _ _ h₁₀ F₁₀ N₁₀
            (try dsimp only)
            rw [hl3, wgrow_yes hlt, ← List.append_assoc]
            have hz2 : ∀ q ∈ (h₈.objs.size, tupO [.int p.1 t4]) :: (C, oC₈) :: (I3, o₇) :: (D, LCg.lst ys) :: (ts' ++ (I2, o₄) :: base), q.1 ≠ (h₈.push (tupO [.int p.1 t4])).objs.size := fun q hq => Nat.ne_of_lt (Heap.lt_size (N₉ q hq).1)
            refine app_end (uw := us ++ [.int p.1 t4]) rfl F₁₀ (newsSub N₁₀ ?_) ⟨(hz2 _ (.tail _ (.head _))).symm, (hz2 _ (.tail _ (.tail _ (.tail _ (.head _))))).symm, (hz2 (I2, o₄) (.tail _ (.tail _ (.tail _ (.tail _ (List.mem_append_right _ (.head _))))))).symm, (hz2 _ (.tail _ (.tail _ (.head _)))).symm, (hz2 (I, o) (.tail _ (.tail _ (.tail _ (.tail _ (List.mem_append_right _ (.tail _ hbI))))))).symm⟩ hDC.symm hID3 hCI offt hoff' hlen hC₈ e1 hT' (hus.append (.cons _ _ .nil))
            intro p hp
            rcases List.mem_cons.mp hp with rfl | hp
            · exact .head _
            · exact .tail _ (.tail _ hp)
          · show us.length + 1 ≤ sizeLine
            exact Nat.le_trans (Nat.succ_le_succ hus8) (by decide)
        · rw [if_neg (by simpa using hlt), hl3, wgrow_no hlt]
          refine ⟨h₈, _, (C, oC₈) :: (D, LCg.lst ys) :: (ts' ++ (I2, o₄) :: base), rfl, F₈, newsSub N₈ ?_, offx, oC₈, m8, ys, ts', rfl, hC₈, e1, hoff', hT'⟩
          intro p hp
          simp only [List.mem_cons] at hp ⊢
          rcases hp with hp | hp | hp | hp <;> simp [hp]
      · rintro nx h₇ tk₇ ⟨oC, mC, ys, ts', rfl, hC, hmw, hoff', hT'⟩ F₇ N₇
        rw [List.size_toArray, hi.length, List.length_map, List.take_length, ← wstep_snoc, ← take_succ_of hw] at hT'
        refine ⟨h₇, tk₇, (C, oC) :: (D, LCg.lst ys) :: (ts' ++ base), rfl, F₇, newsSub N₇ ?_, ?_, oC, mC, ys, ts', rfl, hC, fun p hp => ⟨(hoff' p hp).1, (hoff' p hp).2.1, (hoff' p hp).2.2.1, (hoff' p hp).2.2.2.2⟩, hT'⟩
        · intro p hp
          simp only [List.mem_cons, List.mem_append] at hp ⊢
          rcases hp with hp | hp | hp | hp | hp <;> simp [hp]
        · intro p hp
          simp only [List.mem_cons, List.mem_append] at hp
          rcases hp with rfl | rfl | hp | hp
          · exact hIC.symm
          · exact hID.symm
          · exact (hoff' p hp).2.2.1
          · exact (offb p hp).2.2
    · rintro nx h₄ tk₄ ⟨oC, mC, ys, ts', rfl, hC, hoff', hT'⟩ F₄ N₄
      rw [List.size_toArray, hT2.length, List.take_length] at hT'
      refine ⟨h₄, tk₄, oC, mC, _, rfl, hC, F₄, N₄, ?_, ?_⟩
      · intro p hp
        rcases List.mem_cons.mp hp with rfl | hp
        · exact hDC
        · rcases List.mem_append.mp hp with hp | hp
          · exact (hoff' p hp).1
          · exact (offb p hp).1
      · intro h'' tk'' F'' N''
        (first | (k_unfold; (try dsimp only)) | walk1 | (dsimp only; walk1))
        dsimp only [UnrPost]
        refine UnrEnd.intro F'' N'' ((D, LCg.lst ys) :: (ts' ++ [(L' + 1, oK)])) ?_ ?_ ?_
        · intro p hp
          simp only [List.mem_cons, List.mem_append, List.mem_nil_iff, or_false] at hp ⊢
          rcases hp with rfl | rfl | hp | rfl
          · exact .inr (.inr hbI)
          · exact .inl rfl
          · exact .inr (.inl hp)
          · exact .inr (.inr hbK)
        · intro p hp
          simp only [List.mem_cons, List.mem_append, List.mem_nil_iff, or_false] at hp
          rcases hp with rfl | hp | rfl
          · exact (offb _ hbI).2.1.symm
          · exact (hoff' p hp).2.2.2
          · exact hKI
        · exact ⟨D, ys, ys.length, oK, ts', rfl, hcell, rfl, hT'⟩
  · rintro m₁ nx h tk ⟨l, vs, e, oK, ts, e1, hcell, rfl, hT⟩ F N
    have F' := frKnow F [(Str.ofString "words", _)] ⟨e1, trivial⟩
    clear F
    (iterate 3 (first | (k_unfold; (try dsimp only)) | walk1 | (dsimp only; walk1)); (try dsimp only))
    rename News _ _ _ _ => N
    refine hret _ _ _ (Fr.keep (by assumption)) ⟨l, vs, e, ts, rfl, (N _ (.head _)).2.2, (N _ (.head _)).1, hT, fun p hp => ⟨(N p (.tail _ (List.mem_append_left _ hp))).1, (N p (.tail _ (List.mem_append_left _ hp))).2.2⟩⟩
end Mine
end
section
open PySem PySem.W PySem.Spec PySem.Calls PyProof.Rows
namespace Mine
set_option maxRecDepth 100000
set_option maxHeartbeats 1000000

/-- what an asked order gives, each question within n and of two places -/
def runT {α : Type} (n : Nat) (lt : Nat → Nat → Bool) : KasT α → Option α
  | .ret a => some a
  | .ask i j k => if i < n ∧ j < n ∧ i ≠ j then runT n lt (k (lt i j)) else none
theorem runT_wp {α : Type} {cmp : Nat → Nat → (Bool → Shared → Prop) → Shared → Prop} {n : Nat} {lt : Nat → Nat → Bool} {s : Shared} (hc : ∀ i j C, i < n → j < n → i ≠ j → C (lt i j) s → cmp i j C s) :
    ∀ (t : KasT α) (a : α) (Q : α → Shared → Prop), runT n lt t = some a → Q a s → t.kasWp cmp Q s
  | .ret b, a, Q, h, q => by cases h; exact q
  | .ask i j k, a, Q, h, q => by
    unfold runT at h
    split at h
    · rename_i hij
      exact hc i j _ hij.1 hij.2.1 hij.2.2 (runT_wp hc (k (lt i j)) a Q h q)
    · cases h

/-- the order of four letters by six answers -/
def tab (a b c d e f : Bool) (i j : Nat) : Bool :=
  match i, j with
  | 0, 1 => a | 0, 2 => b | 0, 3 => c | 1, 2 => d | 1, 3 => e | 2, 3 => f
  | 1, 0 => !a | 2, 0 => !b | 3, 0 => !c | 2, 1 => !d | 3, 1 => !e | 3, 2 => !f
  | _, _ => false
def allLt (lt : Nat → Nat → Bool) : List Nat → Bool
  | [] => true
  | x :: r => r.all (lt x) && allLt lt r
def trans3 (lt : Nat → Nat → Bool) : Bool := (List.range 4).all fun i => (List.range 4).all fun j => (List.range 4).all fun k => !(lt i j && lt j k) || lt i k
def sortsTo (n : Nat) (lt : Nat → Nat → Bool) : Bool := match runT n lt (kas_sort n) with
  | some p => allLt lt p.toList && p.toList.isPerm (List.range n)
  | none => false
theorem sort_tab : ∀ a b c d e f : Bool, trans3 (tab a b c d e f) = true → sortsTo 2 (tab a b c d e f) = true ∧ sortsTo 3 (tab a b c d e f) = true ∧ sortsTo 4 (tab a b c d e f) = true := by decide +kernel
def keyN (x0 x1 x2 x3 : Int) (i : Nat) : Int := match i with | 0 => 4 * x0 + 3 | 1 => 4 * x1 + 2 | 2 => 4 * x2 + 1 | _ => 4 * x3
abbrev tabN (x0 x1 x2 x3 : Int) : Nat → Nat → Bool := tab (decide (x0 < x1)) (decide (x0 < x2)) (decide (x0 < x3)) (decide (x1 < x2)) (decide (x1 < x3)) (decide (x2 < x3))
theorem tab_key (x0 x1 x2 x3 : Int) : ∀ i < 4, ∀ j < 4, tabN x0 x1 x2 x3 i j = decide (keyN x0 x1 x2 x3 i < keyN x0 x1 x2 x3 j)
  | 0, _, 0, _ | 1, _, 1, _ | 2, _, 2, _ | 3, _, 3, _ => by simp [tab]
  | 0, _, 1, _ | 0, _, 2, _ | 0, _, 3, _ | 1, _, 2, _ | 1, _, 3, _ | 2, _, 3, _ => by simp only [tabN, tab, keyN]; exact decide_eq_decide.mpr (by omega)
  | 1, _, 0, _ | 2, _, 0, _ | 3, _, 0, _ | 2, _, 1, _ | 3, _, 1, _ | 3, _, 2, _ => by simp only [tabN, tab, keyN, ← decide_not]; exact decide_eq_decide.mpr (by omega)
theorem tab_trans (x0 x1 x2 x3 : Int) : trans3 (tabN x0 x1 x2 x3) = true := by
  unfold trans3
  simp only [List.all_eq_true, List.mem_range]
  intro i hi j hj k hk
  rw [tab_key x0 x1 x2 x3 i hi j hj, tab_key x0 x1 x2 x3 j hj k hk, tab_key x0 x1 x2 x3 i hi k hk]
  by_cases h1 : keyN x0 x1 x2 x3 i < keyN x0 x1 x2 x3 j
  · by_cases h2 : keyN x0 x1 x2 x3 j < keyN x0 x1 x2 x3 k
    · simp [h1, h2, Int.lt_trans h1 h2]
    · simp [h2]
  · simp [h1]
def ltOf (ls : List Int) (i j : Nat) : Bool := decide (ls.getD i 0 < ls.getD j 0)
theorem ltOf_tab {ls : List Int} (hd : ∀ i j, i < ls.length → j < ls.length → i ≠ j → ls.getD i 0 ≠ ls.getD j 0) (h4 : ls.length ≤ 4) {i j : Nat} (hi : i < ls.length) (hj : j < ls.length) (hne : i ≠ j) :
    ltOf ls i j = tabN (ls.getD 0 0) (ls.getD 1 0) (ls.getD 2 0) (ls.getD 3 0) i j := by
  rw [tab_key _ _ _ _ i (by omega) j (by omega)]
  have z := hd i j hi hj hne
  have e : ∀ i < 4, ∃ c : Int, 0 ≤ c ∧ c < 4 ∧ keyN (ls.getD 0 0) (ls.getD 1 0) (ls.getD 2 0) (ls.getD 3 0) i = 4 * ls.getD i 0 + c := by
    intro i hi
    match i, hi with
    | 0, _ => exact ⟨3, by decide, by decide, rfl⟩
    | 1, _ => exact ⟨2, by decide, by decide, rfl⟩
    | 2, _ => exact ⟨1, by decide, by decide, rfl⟩
    | 3, _ => exact ⟨0, by decide, by decide, by simp [keyN]⟩
  obtain ⟨c, c0, c1, ec⟩ := e i (by omega)
  obtain ⟨d, d0, d1, ed⟩ := e j (by omega)
  unfold ltOf
  rw [ec, ed]
  exact decide_eq_decide.mpr (by omega)
theorem runT_congr {α : Type} {n : Nat} {lt lt' : Nat → Nat → Bool} (h : ∀ i j, i < n → j < n → i ≠ j → lt i j = lt' i j) : ∀ t : KasT α, runT n lt t = runT n lt' t
  | .ret a => rfl
  | .ask i j k => by
    unfold runT
    split
    · rename_i hij
      rw [h i j hij.1 hij.2.1 hij.2.2]
      exact runT_congr h _
    · rfl
theorem allLt_pair {lt : Nat → Nat → Bool} : ∀ {l : List Nat}, allLt lt l = true → l.Pairwise fun i j => lt i j = true
  | [], _ => .nil
  | x :: r, h => by
    unfold allLt at h
    rw [Bool.and_eq_true, List.all_eq_true] at h
    exact .cons h.1 (allLt_pair h.2)
theorem sort_ls {ls : List Int} (hd : ∀ i j, i < ls.length → j < ls.length → i ≠ j → ls.getD i 0 ≠ ls.getD j 0) (h2 : 2 ≤ ls.length) (h4 : ls.length ≤ 4) :
    ∃ p, runT ls.length (ltOf ls) (kas_sort ls.length) = some p ∧ (p.toList.Pairwise fun i j => ls.getD i 0 < ls.getD j 0) ∧ p.toList.Perm (List.range ls.length) := by
  have T := sort_tab _ _ _ _ _ _ (tab_trans (ls.getD 0 0) (ls.getD 1 0) (ls.getD 2 0) (ls.getD 3 0))
  have hs : sortsTo ls.length (tabN (ls.getD 0 0) (ls.getD 1 0) (ls.getD 2 0) (ls.getD 3 0)) = true := by
    have : ls.length = 2 ∨ ls.length = 3 ∨ ls.length = 4 := by omega
    rcases this with e | e | e <;> rw [e]
    · exact T.1
    · exact T.2.1
    · exact T.2.2
  unfold sortsTo at hs
  rw [← runT_congr (fun i j hi hj hne => ltOf_tab hd h4 hi hj hne)] at hs
  split at hs
  · rename_i p hp
    rw [Bool.and_eq_true] at hs
    have hperm := List.isPerm_iff.mp hs.2
    refine ⟨p, hp, ?_, hperm⟩
    have hnd : p.toList.Nodup := hperm.nodup_iff.mpr List.nodup_range
    have hlt : ∀ i ∈ p.toList, i < ls.length := fun i hi => List.mem_range.mp (hperm.mem_iff.mp hi)
    refine ((allLt_pair hs.1).and hnd).imp_of_mem fun {i j} hi hj h => ?_
    have z := ltOf_tab hd h4 (hlt i hi) (hlt j hj) h.2
    rw [← z] at h
    exact of_decide_eq_true h.1
  · cases hs

theorem katTups_of {h : Heap} : ∀ {vs : List Value} {ps : List (Int × Int)}, Tups (inH h) vs (ps.map pr) → ∃ fs, KatTups h vs fs ∧ (∀ v ∈ fs, ∃ n t, v = .int n t) ∧ fs.length = ps.length
  | vs, [], hT => by
    cases hT
    exact ⟨[], .nil, (fun v hv => by cases hv), rfl⟩
  | vs, p :: ps, hT => by
    cases hT with
    | cons ha hi hr =>
      obtain ⟨fs, h1, h2, h3⟩ := katTups_of hr
      cases hi with
      | cons n t r =>
        exact ⟨.int p.1 t :: fs, .cons ha rfl rfl rfl h1, (fun v hv => by
          rcases List.mem_cons.mp hv with rfl | hv
          · exact ⟨_, _, rfl⟩
          · exact h2 v hv), by simp [h3]⟩
theorem Tups.pick {P : Addr → List Value → Prop} {vs : List Value} {ps : List (Int × Int)} (hT : Tups P vs (ps.map pr)) : ∀ (l : List Nat), (∀ i ∈ l, i < ps.length) → Tups P (l.map fun i => vs.getD i Value.none) ((l.map fun i => ps.getD i (0, 0)).map pr)
  | [], _ => .nil
  | i :: r, h => by
    have hi := h i (.head _)
    obtain ⟨a, us, e, p, q⟩ := hT.get i (pr (ps.getD i (0, 0))) (by simp [hi])
    have e2 : vs.getD i Value.none = .ref a := by rw [List.getD_eq_getElem?_getD, e]; rfl
    rw [List.map_cons, List.map_cons, List.map_cons, e2]
    exact .cons p q (hT.pick r fun j hj => h j (.tail _ hj))

theorem sorted_pairs {w : World} {A : Around} {s : Shared} {h₀ : Heap} {L l : Addr} {m : Str → Option Value} {news : List (Addr × Obj)} {vs : List Value} {e : Nat} {ps : List (Int × Int)} {Q : Value → Shared → Prop} (F : Fr h₀ L s.heap m) (N : News h₀ L s.heap news)
    (hl : (l, W.listOf vs.toArray e) ∈ news) (hT : Tups (inL news) vs (ps.map pr)) (h2 : 2 ≤ ps.length) (h4 : ps.length ≤ 4) (hd : (ps.map (·.1)).Nodup)
    (h : ∀ D c h' (out : List (Int × Int)) (vs' : List Value), Fr h₀ L h' m → News h₀ L h' ((D, W.listOf vs'.toArray c) :: news) → (out.Pairwise fun a b => a.1 < b.1) → out.Perm ps → Tups (inL news) vs' (out.map pr) → Q (.ref D) { s with heap := h' }) :
    wpAny (model prog w) A (call (.builtin "sorted") [.ref l]) Q NoE s := by
  have hlen : vs.length = ps.length := by rw [hT.length, List.length_map]
  refine kat_sorted (vs := vs) F N ⟨_, (N _ hl).1, rfl, e, rfl⟩ (by omega) (by omega) fun D e1 h' F' N' hD => ?_
  have hTh : Tups (inH h') vs (ps.map pr) := hT.mono fun a us hm => (N' _ (.tail _ hm)).1
  obtain ⟨fs, hk, hfi, hfl⟩ := katTups_of hTh
  refine kat_kind (T := .type "int") hk (by omega) (fun v hv => by obtain ⟨n, t, rfl⟩ := hfi v hv; exact Looks.of_pure rfl) rfl ?_
  have hd2 : ∀ i j, i < (ps.map (·.1)).length → j < (ps.map (·.1)).length → i ≠ j → (ps.map (·.1)).getD i 0 ≠ (ps.map (·.1)).getD j 0 := fun i j hi hj hne e => by
    rw [List.getD_eq_getElem?_getD, List.getD_eq_getElem?_getD, List.getElem?_eq_getElem hi, List.getElem?_eq_getElem hj] at e
    have e' : (ps.map (·.1))[i] = (ps.map (·.1))[j] := by simpa using e
    rcases Nat.lt_or_gt_of_ne hne with q | q
    · exact List.pairwise_iff_getElem.mp hd i j hi hj q e'
    · exact List.pairwise_iff_getElem.mp hd j i hj hi q e'.symm
  obtain ⟨p, hp, hso, hpe⟩ := sort_ls hd2 (by rw [List.length_map]; exact h2) (by rw [List.length_map]; exact h4)
  rw [List.length_map] at hp hpe
  rw [hlen]
  have hin : ∀ i ∈ p.toList, i < ps.length := fun i hi => List.mem_range.mp (hpe.mem_iff.mp hi)
  refine runT_wp (fun i j C hi hj hne hC => ?_) _ p _ hp ?_
  · obtain ⟨a, us, ea, ha, hua⟩ := hTh.get i (pr (ps.getD i (0, 0))) (by simp [hi])
    obtain ⟨b, ub, eb, hb, hub⟩ := hTh.get j (pr (ps.getD j (0, 0))) (by simp [hj])
    unfold kas_ask
    rw [List.getD_eq_getElem?_getD, List.getD_eq_getElem?_getD, ea, eb]
    show wpAny _ _ (keyLt' _ (.ref a) (.ref b)) _ _ _
    have e0 : (ps.map (·.1)).getD i 0 = (ps.getD i (0, 0)).1 := by simp [hi]
    have e1 : (ps.map (·.1)).getD j 0 = (ps.getD j (0, 0)).1 := by simp [hj]
    have hne' := hd2 i j (by rw [List.length_map]; exact hi) (by rw [List.length_map]; exact hj) hne
    unfold ltOf at hC
    rw [e0, e1] at hC hne'
    cases hua with
    | cons x t r => cases r with
      | cons x2 t2 r2 => cases r2 with
        | nil => cases hub with
          | cons y u r => cases r with
            | cons y2 u2 r2 => cases r2 with
              | nil =>
                refine kat_lt ha rfl hb rfl (kat_cons (wpAny_eqBool_int ?_))
                rw [show ((ps.getD i (0, 0)).1 == (ps.getD j (0, 0)).1) = false from by simpa using hne']
                exact kat_no (oneLt_int hC)
  · refine KasFin.intro F' N' (.head fun q hq => Nat.ne_of_lt (hD q hq)) fun h'' c F'' N'' => ?_
    refine h D c h'' (p.toList.map fun i => ps.getD i (0, 0)) _ F'' N'' ?_ ?_ (hT.pick p.toList hin)
    · rw [List.pairwise_map]
      refine hso.imp_of_mem fun {i j} hi hj hlt => ?_
      have e0 : (ps.map (·.1)).getD i 0 = (ps.getD i (0, 0)).1 := by simp [hin i hi]
      have e1 : (ps.map (·.1)).getD j 0 = (ps.getD j (0, 0)).1 := by simp [hin j hj]
      rw [← e0, ← e1]; exact hlt
    · have e := hpe.map fun i => ps.getD i (0, 0)
      have e2 : (List.range ps.length).map (fun i => ps.getD i (0, 0)) = ps := by
        refine List.ext_getElem (by simp) fun i h1 h2 => ?_
        simp at h1
        simp [h1]
      rw [e2] at e
      exact e
end Mine
end
section
open PySem PySem.W PySem.Spec PySem.Calls PyProof.Rows
namespace Mine
set_option maxRecDepth 100000
set_option maxHeartbeats 8000000
theorem fill10 : (PySem.Challenge.rw_sn0080_01.row.prog = PySem.Challenge.rw_sn0080_01.row.prog) ∧ (Mine.K0 = Mine.K0) := by k_fill; exact ⟨rfl, rfl⟩

def tokL : List (Str × Int) := [(Str.ofString "+", 14), (Str.ofString "->", 51), (Str.ofString "**=", 46), (Str.ofString "<", 20), (Str.ofString "//", 47), (Str.ofString "!", 54), (Str.ofString "@", 49), (Str.ofString ":=", 53), (Str.ofString "&", 19), (Str.ofString "~", 31)]
def tokOf (y : Str) : Int := (tokL.lookup y).getD 0
def intOf (v : Option Value) : Option Int := match v with
  | some (.int n _) => some n
  | _ => none
noncomputable def tokEs (P : Params) : Array DictEntry := match (ob132 P).data with
  | .dict es _ => es
  | _ => #[]
theorem tok_all (P : Params) : tokL.map (fun p => intOf (findBy (fun n v => Value.isStrOf n v) (tokEs P) p.1)) = tokL.map fun p => some p.2 := by kernel_rfl
theorem tok_map {w : World} {h : Heap} (g : (K0 w.params).In h) : h.MapOf (strKind prog w) 132 (fun y => findBy (strKind prog w).is (tokEs w.params) y) := by
  refine ⟨ob132 w.params, tokEs w.params, _, g 132 _ (by k_is), ⟨rfl, rfl, rfl⟩, rfl, ?_, fun _ => rfl⟩
  intro e he
  unfold tokEs ob132 at he
  dsimp only at he
  rw [List.mem_toArray, List.mem_map] at he
  obtain ⟨j, _, rfl⟩ := he
  exact ⟨_, strKind_is prog w _ _, rfl⟩

theorem tok_find (P : Params) {y : Str} (hy : y ∈ tokL.map (·.1)) : ∃ t, findBy (fun n v => Value.isStrOf n v) (tokEs P) y = some (.int (tokOf y) t) := by
  have key : ∀ l : List (Str × Int), l.map (fun p => intOf (findBy (fun n v => Value.isStrOf n v) (tokEs P) p.1)) = l.map (fun p => some p.2) → ∀ p ∈ l, ∃ t, findBy (fun n v => Value.isStrOf n v) (tokEs P) p.1 = some (.int p.2 t) := by
    intro l h p hp
    have z : intOf (findBy (fun n v => Value.isStrOf n v) (tokEs P) p.1) = some p.2 := by
      have := List.map_inj_left.mp h p hp
      exact this
    revert z
    cases findBy (fun n v => Value.isStrOf n v) (tokEs P) p.1 with
    | none => intro z; cases z
    | some v => cases v <;> intro z <;> cases z; exact ⟨_, rfl⟩
  obtain ⟨p, hp, rfl⟩ := List.mem_map.mp hy
  have e : ∀ p ∈ tokL, tokOf p.1 = p.2 := by decide +kernel
  rw [e p hp]
  exact key tokL (tok_all P) p hp
theorem item_tok {w : World} {A : Around} {s : Shared} {E : Value → Shared → Prop} {value slice : PySem.Expr} {y : Str} {t : Tok} {Q : Value → Shared → Prop} (g : (K0 w.params).In s.heap) (hy : y ∈ tokL.map (·.1))
    (h : ∀ t', Q (.int (tokOf y) t') { s with toks := s.toks + 1 })
    (hs : subscripted slice false (.ref 132) (.str y t) = operate [.ref 132, .str y t] (getItem (.ref 132) (.str y t)) := by with_unfolding_all rfl) (hg : ∀ r, letTemporaryGo value (.ref 132) r = pure () := by intro _; with_unfolding_all rfl) :
    wpAny (model prog w) A (subscriptTail value slice (.ref 132) (.str y t)) Q E s := by
  obtain ⟨t', e⟩ := tok_find w.params hy
  exact subscriptTail_builtin (tok_map g).typeIs PySem.F.slot_dict_getitem.lookup (wpAny_getItem_of (strKind_is prog w y t) (tok_map g) e (h t')) hs hg
theorem cut_of : ∀ (p : List Value) (y : Value) (q : List Value), kl_cut (p ++ y :: q) p.length = some (p, y, q)
  | [], y, q => rfl
  | x :: p, y, q => by
    show kl_cut (x :: (p ++ y :: q)) (p.length + 1) = _
    unfold kl_cut
    rw [cut_of p y q]
theorem strs_split : ∀ {vs : List Value} {ys : List Str} (k : Nat), StrsAre vs ys → k < ys.length → ∃ p y t q p' q', vs = p ++ .str y t :: q ∧ ys = p' ++ y :: q' ∧ p.length = k ∧ StrsAre (p ++ q) (p' ++ q')
  | _, _, k, .nil, h => absurd h (Nat.not_lt_zero _)
  | _, _, 0, .cons y t r, _ => ⟨[], y, t, _, [], _, rfl, rfl, rfl, r⟩
  | _, _, k + 1, .cons y t r, h => by
    obtain ⟨p, z, t', q, p', q', e1, e2, e3, e4⟩ := strs_split k r (Nat.lt_of_succ_lt_succ h)
    exact ⟨.str y t :: p, z, t', q, y :: p', q', by rw [e1]; rfl, by rw [e2]; rfl, by rw [List.length_cons, e3], .cons y t e4⟩
end Mine
end
section
open PySem PySem.W PySem.Spec PySem.Calls PyProof.Rows
namespace Mine
set_option maxRecDepth 100000
set_option maxHeartbeats 8000000
theorem fill10b : (PySem.Challenge.rw_sn0080_01.row.prog = PySem.Challenge.rw_sn0080_01.row.prog) ∧ (Mine.K0 = Mine.K0) := by k_fill; exact ⟨rfl, rfl⟩

theorem appendL {w : World} {A : Around} {s : Shared} {h₀ : Heap} {L D : Addr} {m : Str → Option Value} {ys : List Value} {n : Nat} {y : Value} {rest : List (Addr × Obj)} {Q : Value → Shared → Prop} {E : Value → Shared → Prop} (F : Fr h₀ L s.heap m) (N : News h₀ L s.heap ((D, W.listOf ys.toArray n) :: rest)) (off : ∀ p ∈ rest, p.1 ≠ D) (hsz : ys.length ≤ 100000)
    (h : ∀ h', Fr h₀ L h' m → News h₀ L h' ((D, W.listOf (ys ++ [y]).toArray (n + 1)) :: rest) → Q .none { s with heap := h' }) :
    wpAny (model prog w) A (call (.builtin "list.append") [.ref D, y]) Q E s := by
  have z := N _ (.head _)
  refine append_at (hsz := by show ys.toArray.size ≤ sizeLine; rw [List.size_toArray]; exact Nat.le_trans hsz (by decide)) z.1 fun h₅ hs₅ hD₅ => ?_
  refine h h₅ (F.change hs₅ z.2.1 z.2.2) fun p hp => ?_
  rcases List.mem_cons.mp hp with rfl | hp
  · refine ⟨hD₅.trans ?_, z.2⟩
    rw [List.push_toArray]
  · exact ⟨hs₅.extBut _ _ (off p hp) (N p (.tail _ hp)).1, (N p (.tail _ hp)).2⟩

theorem newTupleL {w : World} {A : Around} {s : Shared} {h₀ : Heap} {L : Addr} {m : Str → Option Value} {vs : List Value} {news : List (Addr × Obj)} {Q : Value → Shared → Prop} {E : Value → Shared → Prop} (F : Fr h₀ L s.heap m) (N : News h₀ L s.heap news)
    (h : ∀ T h', Fr h₀ L h' m → News h₀ L h' ((T, tupO vs) :: news) → (∀ p ∈ news, p.1 ≠ T) → Q (.ref T) { s with heap := h' }) (hsz : vs.length ≤ sizeLine := by size_fits) : wpAny (model prog w) A (newTuple vs) Q E s :=
  wpAny_newTuple (hsz := hsz) (h _ _ (F.push _) (N.push F _) fun p hp => Nat.ne_of_lt (Heap.lt_size (N p hp).1))
theorem kinds_fn (w : World) (a : Addr) (cvs : List Value) (ct : List Int) (x y : Int) (t t' : Tok) (hx : 0 ≤ x ∧ x ≤ 100000) (hy : 0 ≤ y ∧ y ≤ 100000) (hc : 2 ≤ ct.length ∧ ct.length ≤ 4) :
    Fn w 162 [.ref a, .int x t, .int y t'] 3 30 (fun h => h.get? a = some (tupO cvs) ∧ IntsAre cvs ct)
      (fun h v h' => ∃ kinds : List (Int × Int), FreshTups h v h' (kinds.map pr) ∧ (kinds.Pairwise fun p q => p.1 < q.1) ∧ (kinds.map (·.2)).Perm ct) := by
  intro dp un fr gd s R g hd hu hpre hret
  obtain ⟨hl, hi⟩ := hpre
  (refine' enterH (binds := [(Str.ofString "content", .ref a), (Str.ofString "first", .int x t), (Str.ofString "step", .int y t')]) [] ?k0 ?ki ?k6 ?kd ?k7 ?k8 ?k9 ?kB ?_ ?c2 ?c3 ?c4 ?c5; (case k0 => assumption); (case ki => exact List.forall_mem_nil _); (case k6 => exact fn_at (by assumption) (by k_is)); (case kd => with_unfolding_all exact rfl); (case k7 => exact codeRec_of (G.k (by assumption)) (by k_is)); (case k8 => exact Nat.lt_of_le_of_lt (Nat.le_add_right _ _) hd); (case k9 => first | exact BindsTo.of_eq rfl | exact binds_K (G.k (by assumption)) rfl (by k_is) rfl rfl rfl); (case c5 => decide); (case kB => exact locs rfl); (case c2 => exact rfl); (case c3 => exact rfl); (case c4 => exact rfl); k_whole; intro L' h' vw lo mean mg mb F' N' l0 X' T'; clear l0; (try dsimp only [List.map_nil, hideAll] at *))
  iterate 35 (first | (k_unfold; (try dsimp only)) | walk1 | (dsimp only; walk1))
  refine forI ?_ (by intro _; rfl)
  iterate 10 (first | (k_unfold; (try dsimp only)) | walk1 | (dsimp only; walk1))
  rename Fr _ _ _ _ => F0
  refine len_tuple (items := cvs.toArray) ⟨_, F0.keep _ _ hl, rfl, _, rfl⟩ (by rw [List.size_toArray, hi.length]; omega) ?_
  rw [List.size_toArray, hi.length]
  iterate 2 (first | (k_unfold; (try dsimp only)) | walk1 | (dsimp only; walk1))
  rename IsRange _ _ _ _ _ _ _ _ => hr
  rename News _ _ _ _ => N2
  rename Fr _ _ _ _ => F2
  refine iterRange (n := ct.length) F2 N2 hr (by first | decide | exact small_one (by l_bnd) (by l_bnd) (by l_bnd) (by l_bnd)) (by have z := rangeSize_nat 0 (ct.length : Int); simpa using z) ?_
  intro I o h₁ ho hI F N
  clear F2 N2 hr
  refine loopI (Iter.range rfl 0 ct.length) (fun k m nx => ∃ (l1 : Addr) (sv : List Value) (e1 : Nat) (ys : List Str) (l2 : Addr) (kv : List Value) (e2 : Nat) (ts : List (Addr × Obj)) (ps : List (Int × Int)), m (Str.ofString "signs") = some (.ref l1) ∧ m (Str.ofString "kinds") = some (.ref l2) ∧ m (Str.ofString "content") = some (.ref a) ∧ m (Str.ofString "first") = some (.int x t) ∧ m (Str.ofString "step") = some (.int y t') ∧
    nx = (l2, W.listOf kv.toArray e2) :: (l1, W.listOf sv.toArray e1) :: ts ∧ l1 ≠ l2 ∧ (∀ p ∈ ts, p.1 ≠ l1 ∧ p.1 ≠ l2) ∧ StrsAre sv ys ∧ ys.length + k = 10 ∧ (∀ y ∈ ys, y ∈ tokL.map (·.1)) ∧ Tups (inL ts) kv (ps.map pr) ∧ (ps.map (·.1) ++ ys.map tokOf).Nodup ∧ ps.map (·.2) = ct.take k) F ho N (fun p hp => Nat.ne_of_lt (hI p hp)) ?_ (by intros; trivial) ?_ ?_
  · refine ⟨_, _ :: _ :: _ :: _ :: _ :: _ :: _ :: _ :: _ :: _ :: [], 0, tokL.map (·.1), _, [], 0, [], [], rfl, rfl, rfl, rfl, rfl, rfl, ?_, (fun p hp => by cases hp), ?_, rfl, fun y hy => hy, .nil, by decide +kernel, rfl⟩
    · refine Nat.ne_of_lt ?_; assumption
    · exact .cons _ _ (.cons _ _ (.cons _ _ (.cons _ _ (.cons _ _ (.cons _ _ (.cons _ _ (.cons _ _ (.cons _ _ (.cons _ _ .nil)))))))))
  · rintro k v m₁ nx h tk o hk hv hio ⟨l1, sv, e1, ys, l2, kv, e2, ts, ps, q1, q2, q3, q4, q5, rfl, h12, hts, hS, hlen, hmem, hT, hnd, hsn⟩ hoff F N
    obtain ⟨t₁, rfl⟩ := hv
    have F' := frKnow F [(Str.ofString "signs", _), (Str.ofString "kinds", _), (Str.ofString "content", _), (Str.ofString "first", _), (Str.ofString "step", _)] ⟨q1, q2, q3, q4, q5, trivial⟩
    clear F
    iterate 24 (first | (k_unfold; (try dsimp only)) | walk1 | (dsimp only; walk1))
    rename News _ _ _ _ => N
    refine kst_len (us := sv) (c := e1) N (.tail _ (.tail _ (.head _))) hS.length (by omega) ?_
    iterate 2 (first | (k_unfold; (try dsimp only)) | walk1 | (dsimp only; walk1))
    have h1 := Int.fmod_nonneg_of_pos (x + (0 + (k : Int)) * y) (show (0 : Int) < (ys.length : Int) by omega)
    have h2 := Int.fmod_lt_of_pos (x + (0 + (k : Int)) * y) (show (0 : Int) < (ys.length : Int) by omega)
    generalize (x + (0 + (k : Int)) * y).fmod (ys.length : Int) = i at h1 h2 ⊢
    have hsz : sv.length = ys.length := hS.length
    obtain ⟨p, sg, t₂, q, p', q', rfl, rfl, hp, hS'⟩ := strs_split i.toNat hS (by omega)
    rename Fr _ _ _ _ => F
    refine kl_popAt (D := l1) (its := (p ++ Value.str sg t₂ :: q).toArray) (n := e1) (k := i.toNat) (p := p) (q := q) (y := .str sg t₂) F N ?_ ?_ ?_ (.tail (hoff _ (.tail _ (.head _))).symm (.tail h12.symm (.head fun z hz => (hts z hz).1))) ?_ ?_
    · unfold Builtin.List.listFitsIndex
      have a1 : -(2 ^ 63 : Int) ≤ i := by omega
      have a2 : i < 2 ^ 63 := by omega
      rw [Bool.and_eq_true]; exact ⟨decide_eq_true a1, decide_eq_true a2⟩
    · exact seqIndex_of h1 (by rw [List.size_toArray, hsz]; exact h2)
    · rw [← hp]; exact cut_of p _ q
    · show (p ++ Value.str sg t₂ :: q).length ≤ sizeLine
      rw [hsz]; exact Nat.le_trans (show _ ≤ 10 by omega) (by decide)
    intro h₈ F₈ N₈
    clear F N F'
    have hsg : sg ∈ tokL.map (·.1) := hmem sg (List.mem_append_right _ (.head _))
    iterate 14 (first | (k_unfold; (try dsimp only)) | walk1 | (dsimp only; walk1))
    rename Fr _ _ _ _ => F
    refine item_tok (X'.keeps F.keep) hsg ?_
    intro t₃
    iterate 4 (first | (k_unfold; (try dsimp only)) | walk1 | (dsimp only; walk1))
    rename Fr _ _ _ _ => F
    refine item_tuple_ints (vs := cvs) (ns := ct) ⟨_, F.keep _ _ hl, rfl, _, rfl⟩ hi (by omega) (by omega) (by omega) ?_
    intro t₄
    (first | (k_unfold; (try dsimp only)) | walk1 | (dsimp only; walk1))
    rename Fr _ _ _ _ => F
    rename News _ _ _ _ => N
    refine newTupleL F N fun T hh9 F9 N9 hz => ?_
    clear N hS hsz F
    (first | (k_unfold; (try dsimp only)) | walk1 | (dsimp only; walk1))
    rename News _ _ _ _ => N
    rename Fr _ _ _ _ => F
    refine appendL F (newsSub N (b := (l2, W.listOf kv.toArray e2) :: (T, tupO [.int (tokOf sg) t₃, .int (ct.getD (0 + (k : Int)).toNat 0) t₄]) :: (I, o) :: (l1, W.listOf (p ++ q).toArray (e1 + 1)) :: ts) ?_) ?_ ?_ fun h₉ F₉ N₉ => ?_
    · intro r hr
      simp only [List.mem_cons] at hr ⊢
      rcases hr with hr | hr | hr | hr | hr <;> simp [hr]
    · intro r hr
      simp only [List.mem_cons] at hr
      rcases hr with rfl | rfl | rfl | hr
      · exact (hz (l2, W.listOf kv.toArray e2) (.tail _ (.head _))).symm
      · exact (hoff _ (.head _)).symm
      · exact h12
      · exact (hts r hr).2
    · rw [hT.length, List.length_map]
      have z := congrArg List.length hsn
      rw [List.length_map, List.length_take] at z
      omega
    clear F N
    iterate 2 (first | (k_unfold; (try dsimp only)) | walk1 | (dsimp only; walk1))
    dsimp only [UnrPost]
    have hck : ct[k]? = some (ct.getD (0 + (k : Int)).toNat 0) := by
      rw [Int.zero_add, Int.toNat_natCast, List.getD_eq_getElem?_getD, List.getElem?_eq_getElem hk]; rfl
    refine UnrEnd.intro (by assumption) N₉ ((l2, W.listOf (kv ++ [Value.ref T]).toArray (e2 + 1)) :: (l1, W.listOf (p ++ q).toArray (e1 + 1)) :: (T, tupO [.int (tokOf sg) t₃, .int (ct.getD (0 + (k : Int)).toNat 0) t₄]) :: ts) ?_ ?_ ⟨l1, p ++ q, e1 + 1, p' ++ q', l2, kv ++ [.ref T], e2 + 1, (T, tupO [.int (tokOf sg) t₃, .int (ct.getD (0 + (k : Int)).toNat 0) t₄]) :: ts, ps ++ [(tokOf sg, ct.getD (0 + (k : Int)).toNat 0)], rfl, rfl, rfl, rfl, rfl, rfl, h12, ?_, hS', ?_, ?_, ?_, ?_, ?_⟩
    · intro r hr
      simp only [List.mem_cons] at hr ⊢
      rcases hr with hr | hr | hr | hr | hr <;> simp [hr]
    · intro r hr
      simp only [List.mem_cons] at hr
      rcases hr with rfl | rfl | rfl | hr
      · exact hoff (l2, W.listOf kv.toArray e2) (.head _)
      · exact hoff (l1, W.listOf (p ++ Value.str sg t₂ :: q).toArray e1) (.tail _ (.head _))
      · exact (hz (I, o) (.head _)).symm
      · exact hoff r (.tail _ (.tail _ hr))
    · intro r hr
      rcases List.mem_cons.mp hr with rfl | hr
      · exact ⟨(hz (l1, W.listOf (p ++ q).toArray (e1 + 1)) (.tail _ (.tail _ (.head _)))).symm, (hz (l2, W.listOf kv.toArray e2) (.tail _ (.head _))).symm⟩
      · exact hts r hr
    · simp only [List.length_append, List.length_cons] at hlen ⊢
      omega
    · intro z hz
      refine hmem z ?_
      rcases List.mem_append.mp hz with hz | hz
      · exact List.mem_append_left _ hz
      · exact List.mem_append_right _ (.tail _ hz)
    · rw [List.map_append]
      exact (hT.mono fun _ _ h => .tail _ h).snoc (.head _) (.cons _ _ (.cons _ _ .nil))
    · refine (List.Perm.nodup_iff ?_).mp hnd
      simp only [List.map_append, List.map_cons, List.map_nil, List.append_assoc, List.singleton_append]
      exact List.Perm.append_left _ List.perm_middle
    · rw [List.map_append, hsn, take_succ_of hck]; rfl
  · rintro m₁ nx h tk ⟨l1, sv, e1, ys, l2, kv, e2, ts, ps, q1, q2, q3, q4, q5, rfl, h12, hts, hS, hlen, hmem, hT, hnd, hsn⟩ F N
    have F' := frKnow F [(Str.ofString "kinds", _)] ⟨q2, trivial⟩
    clear F
    iterate 8 (first | (k_unfold; (try dsimp only)) | walk1 | (dsimp only; walk1))
    rename Fr _ _ _ _ => F
    rename News _ _ _ _ => N
    rw [List.take_length] at hsn
    have hpl : ps.length = ct.length := by rw [← hsn, List.length_map]
    refine sorted_pairs F N (.head _) (hT.mono fun _ _ h => .tail _ (.tail _ h)) (by omega) (by omega) (List.nodup_append.mp hnd).1 fun D c h₂ out vs' F₂ N₂ hso hpe hT₂ => ?_
    (skip; (try dsimp only))
    refine hret _ _ _ F₂.keep ⟨out, ⟨D, vs', c, _, rfl, (N₂ _ (.head _)).2.2, (N₂ _ (.head _)).1, hT₂, fun p hp => ⟨(N₂ p (.tail _ hp)).1, (N₂ p (.tail _ hp)).2.2⟩⟩, hso, ?_⟩
    rw [← hsn]
    exact hpe.map _
end Mine
end
section
open PySem PySem.W PySem.Spec PySem.Calls PyProof.Rows
namespace Mine
set_option maxRecDepth 100000
set_option maxHeartbeats 8000000
theorem fill12 : (PySem.Challenge.rw_sn0080_01.row.prog = PySem.Challenge.rw_sn0080_01.row.prog) ∧ (Mine.K0 = Mine.K0) := by k_fill; exact ⟨rfl, rfl⟩

theorem Iter.strA {w : World} {A : Around} {I : Addr} {x : Str} {t : Tok} (hh : A.handled = none) :
    Iter w A I (fun k o => o.cls = .type "str_ascii_iterator" ∧ o.data = .fields #[.str x t, .int (k : Int) 0]) (fun k v => ∃ c u, x.cps[k]? = some c ∧ v = .str ⟨#[c]⟩ u) x.cps.size (fun _ => True) where
  next := fun k o s Q E hk hit ho _ hQ => by
    refine wpAny_pyNext_ascii_item (c := x.cps[k]) ⟨o, ho, hit.1, hit.2⟩ (by simp [hk]) fun h' hit' hs' => ?_
    obtain ⟨o', ho', hc, hd⟩ := hit'
    exact hQ _ h' _ o' ⟨_, _, by simp [hk], rfl⟩ ⟨hc, hd⟩ ho' hs'
  done := fun o s Q E hit ho _ hQ => wpAny_pyNext_ascii_end hh ⟨o, ho, hit.1, hit.2⟩ (by simp) hQ
  quiet := fun k o s target v Q E hit ho hQ => letGo_plain ho hit.1 (by decide) hQ
theorem iterStrA {w : World} {A : Around} {E : Value → Shared → Prop} {s : Shared} {h₀ : Heap} {L : Addr} {m : Str → Option Value} {news : List (Addr × Obj)} {x : Str} {t : Tok} {Q : Value → Shared → Prop} (F : Fr h₀ L s.heap m) (N : News h₀ L s.heap news) (ha : x.cps.all (· < 128) = true)
    (h : ∀ I o h', o.cls = .type "str_ascii_iterator" ∧ o.data = .fields #[.str x t, .int ((0 : Nat) : Int) 0] → (∀ p ∈ news, p.1 < I) → Fr h₀ L h' m → News h₀ L h' ((I, o) :: news) → Q (.ref I) { s with heap := h' }) :
    wpAny (model prog w) A (pyIter (.str x t)) Q E s :=
  wpAny_pyIter_ascii ha (h _ _ _ ⟨rfl, rfl⟩ (fun p hp => Heap.lt_size (N p hp).1) (F.push _) (N.push F _))

/-- a lead's reading: the weight of the tabs, the run, how many, how many tabs -/
structure WS where
  W : Nat
  b : Nat
  n : Nat
  nt : Nat
def wsStep (s : WS) (c : Nat) : WS := if c = 32 then ⟨s.W, s.b + 1, s.n + 1, s.nt⟩ else ⟨s.W + s.b, 0, s.n + 1, s.nt + 1⟩
def wsOf (cl : List Nat) : WS := cl.foldl wsStep ⟨0, 0, 0, 0⟩
theorem wsOf_snoc (cl : List Nat) (c : Nat) : wsOf (cl ++ [c]) = wsStep (wsOf cl) c := by unfold wsOf; rw [List.foldl_append]; rfl
theorem wsOf_le (cl : List Nat) : (wsOf cl).b ≤ cl.length := by
  have : ∀ (l : List Nat) (s : WS), (l.foldl wsStep s).b ≤ s.b + l.length := by
    intro l
    induction l with
    | nil => intro s; exact Nat.le_refl _
    | cons c l ih =>
      intro s
      have z := ih (wsStep s c)
      rw [List.foldl_cons, List.length_cons]
      have : (wsStep s c).b ≤ s.b + 1 := by unfold wsStep; split <;> simp
      omega
  have z := this cl ⟨0, 0, 0, 0⟩
  simpa [wsOf] using z
def wsumF : Nat → List Int → Int
  | _, [] => 0
  | i, x :: r => (i : Int) * x + wsumF (i + 1) r
theorem wsumF_set : ∀ (l : List Int) (i j : Nat), j < l.length → wsumF i (l.set j (l.getD j 0 + 1)) = wsumF i l + ((i + j : Nat) : Int)
  | x :: r, i, 0, _ => by
    show (i : Int) * (x + 1) + _ = (i : Int) * x + _ + _
    rw [Int.mul_add]; simp only [Int.mul_one, Nat.add_zero]; omega
  | x :: r, i, j + 1, h => by
    have z := wsumF_set r (i + 1) j (Nat.lt_of_succ_lt_succ h)
    show (i : Int) * x + wsumF (i + 1) (r.set j (r.getD j 0 + 1)) = (i : Int) * x + wsumF (i + 1) r + _
    rw [z]; push_cast; omega
theorem wsumF_zeros : ∀ (l : List Int) (i k : Nat), wsumF i (l ++ List.replicate k 0) = wsumF i l
  | [], i, 0 => rfl
  | [], i, k + 1 => by
    have z := wsumF_zeros [] (i + 1) k
    rw [List.replicate_succ]
    show (i : Int) * 0 + wsumF (i + 1) ([] ++ List.replicate k 0) = _
    rw [z]; simp [wsumF]
  | x :: r, i, k => by
    show (i : Int) * x + wsumF (i + 1) (r ++ List.replicate k 0) = (i : Int) * x + wsumF (i + 1) r
    rw [wsumF_zeros r (i + 1) k]

theorem nwC {h₀ h : Heap} {L : Addr} {news r : List (Addr × Obj)} {p : Addr × Obj} (N : News h₀ L h news) (hm : p ∈ news) (M : News h₀ L h r) : News h₀ L h (p :: r) := fun q hq => by
  rcases List.mem_cons.mp hq with rfl | hq
  · exact N _ hm
  · exact M q hq
theorem nwN {h₀ h : Heap} {L : Addr} : News h₀ L h [] := fun q hq => by cases hq
theorem foldl_rep (v : Value) : ∀ (k : Nat) (a : Array Value), (List.replicate k #[v]).foldl (fun x1 x2 => x1 ++ x2) a = a ++ (List.replicate k v).toArray
  | 0, a => by simp
  | k + 1, a => by
    rw [List.replicate_succ, List.foldl_cons, foldl_rep v k, List.replicate_succ]
    apply Array.toList_inj.mp
    simp
theorem mulL {w : World} {A : Around} {s : Shared} {h₀ : Heap} {L l : Addr} {m : Str → Option Value} {v : Value} {e : Nat} {k : Int} {u : Tok} {news : List (Addr × Obj)} {Q : Value → Shared → Prop} {E : Value → Shared → Prop} (F : Fr h₀ L s.heap m) (N : News h₀ L s.heap news)
    (hl : (l, W.listOf [v].toArray e) ∈ news) (hk : 0 ≤ k ∧ k ≤ 1000)
    (h : ∀ D h', Fr h₀ L h' m → News h₀ L h' ((D, W.listOf (List.replicate k.toNat v).toArray 0) :: news) → (∀ p ∈ news, p.1 < D) → Q (.ref D) { s with heap := h' }) : wpAny (model prog w) A (binaryOp .Mult (.ref l) (.int k u)) Q E s := by
  refine mul_list F N (items := [v].toArray) (k := e) (N _ hl).1 (by omega) (by omega) (by show 1 * k.toNat ≤ 2 ^ 24; omega) fun h' F' N' => h _ h' F' ?_ fun p hp => Heap.lt_size (N p hp).1
  have z := foldl_rep v k.toNat #[]
  simp only [List.isEmpty_toArray, List.isEmpty_cons, Bool.false_eq_true, if_false] at N'
  rw [z, Array.empty_append] at N'
  exact N'
theorem addL {w : World} {A : Around} {s : Shared} {h₀ : Heap} {L l b : Addr} {m : Str → Option Value} {vs ws : List Value} {e e2 : Nat} {news : List (Addr × Obj)} {Q : Value → Shared → Prop} {E : Value → Shared → Prop} (F : Fr h₀ L s.heap m) (N : News h₀ L s.heap news)
    (hl : (l, W.listOf vs.toArray e) ∈ news) (hb : (b, W.listOf ws.toArray e2) ∈ news) (hsz : vs.length + ws.length ≤ 100000)
    (h : ∀ D h', Fr h₀ L h' m → News h₀ L h' ((D, W.listOf (vs ++ ws).toArray 0) :: news) → (∀ p ∈ news, p.1 < D) → Q (.ref D) { s with heap := h' }) : wpAny (model prog w) A (binaryOp .Add (.ref l) (.ref b)) Q E s :=
  add_lists (hsz := Nat.le_trans hsz (by decide)) F N ⟨_, (N _ hl).1, rfl, e, rfl⟩ ⟨_, (N _ hb).1, rfl, e2, rfl⟩ fun h' F' N' => h _ h' F' N' fun p hp => Heap.lt_size (N p hp).1
theorem intsAre_zeros (t : Tok) : ∀ k, IntsAre (List.replicate k (.int 0 t)) (List.replicate k 0)
  | 0 => .nil
  | k + 1 => .cons _ _ (intsAre_zeros t k)
theorem setL {w : World} {A : Around} {s : Shared} {h₀ : Heap} {L l : Addr} {m : Str → Option Value} {vs : List Value} {e : Nat} {k : Int} {u : Tok} {v : Value} {rest : List (Addr × Obj)} {Q : Unit → Shared → Prop} {E : Value → Shared → Prop} (F : Fr h₀ L s.heap m) (N : News h₀ L s.heap ((l, W.listOf vs.toArray e) :: rest))
    (off : ∀ p ∈ rest, p.1 ≠ l) (h0 : 0 ≤ k) (h1 : k < vs.length) (hfit : k < 2 ^ 63)
    (h : ∀ h', Fr h₀ L h' m → News h₀ L h' ((l, W.listOf (vs.set k.toNat v).toArray e) :: rest) → Q () { s with heap := h' }) : wpAny (model prog w) A (setItem (.ref l) (.int k u) v) Q E s := by
  have z := N _ (.head _)
  refine ki_setAt z.1 h0 hfit (by rw [List.size_toArray]; exact h1) (h _ (F.change (Heap.SameBut.update ..) z.2.1 z.2.2) (ki_turn (pre := []) _ N (fun p hp => by cases hp) off ?_ ?_))
  · apply Array.toList_inj.mp
    simp
  · simp
/-- a Whitespace that has read cl -/
def WsObj (cl : List Nat) (x dx Nn Ct : Addr) (cv : List Value) (news : List (Addr × Obj)) : Prop :=
  ∃ h1 h2 h3 h4 h5 k1 k2 k3 k4 k5 tr tn tnt tb b, news = [(x, instObj 127 dx), (dx, dictOf [⟨h1, .str (Str.ofString "raw") k1, .str ⟨cl.toArray⟩ tr⟩, ⟨h2, .str (Str.ofString "n") k2, .int (wsOf cl).n tn⟩, ⟨h3, .str (Str.ofString "nt") k3, .int (wsOf cl).nt tnt⟩,
    ⟨h4, .str (Str.ofString "norm") k4, .ref Nn⟩, ⟨h5, .str (Str.ofString "is_simple") k5, .bool b⟩] 5), (Nn, tupO [.ref Ct, .int (wsOf cl).b tb]), (Ct, tupO cv)]
theorem init_fn (w : World) (x dx : Addr) (cl : List Nat) (t : Tok) (hcl : ∀ c ∈ cl, c = 32 ∨ c = 9) (hcl2 : cl.length ≤ 64) (dp un : Nat) (fr : Option (List Env)) (gd : Option (List Code)) (s : Shared) (R : Result → Shared → Prop) (hlt : @LT.lt Nat _ dx x) (hts : ∀ p ∈ [(x, instObj 127 dx), (dx, dictOf [] 0)], s.heap.get? p.1 = some p.2)
    (g : G w (hideAll s.heap ([(x, instObj 127 dx), (dx, dictOf [] 0)].map (·.1)))) (hd : dp + 2 < recursionLimit) (hu : un + 20 < cLine)
    (hret : ∀ h' tk' Nn Ct cv C news, WsObj cl x dx Nn Ct cv news → IntsAre cv C → C.length ≤ 65 → (∀ z ∈ C, 0 ≤ z ∧ z ≤ 64) → wsumF 0 C = (wsOf cl).W → (@LT.lt Nat _ x Ct) → (@Ne Nat Ct Nn ∧ @Ne Nat x Nn ∧ @Ne Nat dx Nn) → Grew s.heap h' [(x, instObj 127 dx), (dx, dictOf [] 0)] news →
      (∀ b o, b ∉ [(x, instObj 127 dx), (dx, dictOf [] 0)].map (·.1) → s.heap.get? b = some o → h'.get? b = some o) → R (.ok (.ret .none)) { s with heap := h', toks := tk' }) : codeAny (model prog w) (AR dp un fr gd) (.call (.ref 82) ⟨[.ref x, .str ⟨cl.toArray⟩ t], []⟩) R s := by
  refine' enterH (binds := [(Str.ofString "self", .ref x), (Str.ofString "ws", .str ⟨cl.toArray⟩ t)]) _ g hts ?k6 ?kd ?k7 ?k8 ?k9 ?kB ?_ ?c2 ?c3 ?c4 ?c5
  (case k6 => exact of_hideAll _ (fn_at g (by k_is)))
  (case kd => with_unfolding_all exact rfl)
  (case k7 => exact (codeRec_of g.k (by k_is)).keeps fun b o e => of_hideAll _ e)
  (case k8 => exact Nat.lt_of_le_of_lt (Nat.le_add_right _ _) hd)
  (case k9 => exact BindsTo.of_eq rfl)
  (case c5 => decide)
  (case kB => exact locs rfl); (case c2 => exact rfl); (case c3 => exact rfl); (case c4 => exact rfl)
  intro L' h' vw lo mean mg mb F N l0 X' T'
  iterate 44 (first | (k_unfold; (try dsimp only)) | walk1 | (dsimp only; walk1))
  refine forI ?_ (by intro _; rfl)
  iterate 3 (first | (k_unfold; (try dsimp only)) | walk1 | (dsimp only; walk1))
  rename News _ _ _ _ => N
  rename Fr _ _ _ _ => F
  refine iterStrA F N ?_ ?_
  · rw [List.all_toArray, List.all_eq_true]
    intro c hc
    rcases hcl c hc with rfl | rfl <;> rfl
  intro I o h₁ ho hI F N
  obtain ⟨l, rw, rh, m', tb, tn, tnt, N, hxl, hIl, F, q1, q2, q3, q4, q5, q6, q7⟩ : ∃ l rw rh m' tb tn tnt, News (hideAll s.heap (List.map (fun x => x.fst) [(x, instObj 127 dx), (dx, dictOf [] 0)])) L' h₁ [(I, o), (l, W.listOf ([] : List Value).toArray 0), (x, instObj 127 dx), (dx, dictOf [⟨rh, .str (Str.ofString "raw") rw, .str ⟨cl.toArray⟩ t⟩] 1)] ∧ @LT.lt Nat _ x l ∧ @LT.lt Nat _ l I ∧
      Fr (hideAll s.heap (List.map (fun x => x.fst) [(x, instObj 127 dx), (dx, dictOf [] 0)])) L' h₁ m' ∧ m' (Str.ofString "b") = some (.int 0 tb) ∧ m' (Str.ofString "n") = some (.int 0 tn) ∧ m' (Str.ofString "nt") = some (.int 0 tnt) ∧ m' (Str.ofString "count") = some (.ref l) ∧
      m' (Str.ofString "S") = some (.str (Str.ofString " ") 297) ∧ m' (Str.ofString "T") = some (.str (Str.ofString "\t") 298) ∧ m' (Str.ofString "self") = some (.ref x) := by
    refine ⟨_, _, _, _, _, _, _, nwC N (.head _) (nwC N (.tail _ (.head _)) (nwC N (.tail _ (.tail _ (.tail _ (.head _)))) (nwC N (.tail _ (.tail _ (.tail _ (.tail _ (.head _))))) nwN))), ?_, hI _ (.head _), F, rfl, rfl, rfl, rfl, rfl, rfl, rfl⟩
    rename _ ∧ _ ∧ _ => hh
    exact hh.2.1
  have hxI : @LT.lt Nat _ x I := Nat.lt_trans hxl hIl
  have hdI : @LT.lt Nat _ dx I := Nat.lt_trans hlt hxI
  clear hI
  refine loopI (Iter.strA rfl) (fun k m nx => ∃ tb tn tnt l cv e C, m (Str.ofString "b") = some (.int (wsOf (cl.take k)).b tb) ∧ m (Str.ofString "n") = some (.int (wsOf (cl.take k)).n tn) ∧ m (Str.ofString "nt") = some (.int (wsOf (cl.take k)).nt tnt) ∧ m (Str.ofString "count") = some (.ref l) ∧
    m (Str.ofString "S") = some (.str (Str.ofString " ") 297) ∧ m (Str.ofString "T") = some (.str (Str.ofString "\t") 298) ∧ m (Str.ofString "self") = some (.ref x) ∧
    nx = [(l, W.listOf cv.toArray e), (x, instObj 127 dx), (dx, dictOf [⟨rh, .str (Str.ofString "raw") rw, .str ⟨cl.toArray⟩ t⟩] 1)] ∧ (@LT.lt Nat _ x l) ∧ IntsAre cv C ∧ C.length ≤ 65 ∧ (∀ z ∈ C, 0 ≤ z ∧ z ≤ (k : Int)) ∧ wsumF 0 C = (wsOf (cl.take k)).W) F ho N ?_ ?_ (by intros; trivial) ?_ ?_
  · intro p hp
    simp only [List.mem_cons, List.mem_nil_iff, or_false] at hp
    rcases hp with rfl | rfl | rfl
    · exact Nat.ne_of_lt hIl
    · exact Nat.ne_of_lt hxI
    · exact Nat.ne_of_lt hdI
  · exact ⟨_, _, _, l, [], 0, [], q1, q2, q3, q4, q5, q6, q7, rfl, hxl, .nil, Nat.zero_le _, (fun z hz => by cases hz), rfl⟩
  · rintro k v m₁ nx h tk o hk hv hio ⟨tb, tn, tnt, l, cv, e, C, q1, q2, q3, q4, q5, q6, q7, rfl, hxl, hC, hC2, hCb, hW⟩ hoff F N
    obtain ⟨c, u, hc, rfl⟩ := hv
    have hc' : cl[k]? = some c := by simpa using hc
    have hIl : l ≠ I := hoff _ (.head _)
    have F' := frKnow F [(Str.ofString "b", _), (Str.ofString "n", _), (Str.ofString "nt", _), (Str.ofString "count", _), (Str.ofString "S", _), (Str.ofString "T", _), (Str.ofString "self", _)] ⟨q1, q2, q3, q4, q5, q6, q7, trivial⟩
    clear F q1 q2 q3 q4 q5 q6 q7
    rw [take_succ_of hc', wsOf_snoc]
    have hbl : (wsOf (cl.take k)).b ≤ 64 := Nat.le_trans (wsOf_le _) (by rw [List.length_take]; omega)
    generalize wsOf (cl.take k) = ws at *
    rcases hcl c (List.mem_of_getElem? hc') with rfl | rfl
    · rw [show (⟨#[32]⟩ : Str) = Str.ofString " " by kernel_rfl]
      iterate 27 (first | (k_unfold; (try dsimp only)) | walk1 | (dsimp only; walk1))
      dsimp only [UnrPost]
      rename Fr _ _ _ _ => F
      rename News _ _ _ _ => N
      exact UnrEnd.intro F N _ (fun p hp => hp) hoff ⟨_, _, _, l, cv, e, C, rfl, rfl, rfl, rfl, rfl, rfl, rfl, rfl, hxl, hC, hC2, (fun z hz => ⟨(hCb z hz).1, Int.le_trans (hCb z hz).2 (by omega)⟩), hW⟩
    · rw [show (⟨#[9]⟩ : Str) = Str.ofString "\t" by kernel_rfl]
      iterate 43 (first | (k_unfold; (try dsimp only)) | walk1 | (dsimp only; walk1))
      rename News _ _ _ _ => N
      refine kst_len (us := cv) (c := e) N (.tail _ (.head _)) hC.length (by omega) ?_
      (first | (k_unfold; (try dsimp only)) | walk1 | (dsimp only; walk1))
      (first | (k_unfold; (try dsimp only)) | walk1 | (dsimp only; walk1))
      by_cases hge : (C.length : Int) ≤ (ws.b : Int)
      · rw [if_pos (decide_eq_true hge)]
        iterate 20 (first | (k_unfold; (try dsimp only)) | walk1 | (dsimp only; walk1))
        rename News _ _ _ _ => N
        refine kst_len (us := cv) (c := e) N (.tail _ (.tail _ (.head _))) hC.length (by omega) ?_
        iterate 3 (first | (k_unfold; (try dsimp only)) | walk1 | (dsimp only; walk1))
        have hk1 : 0 ≤ (ws.b : Int) - (C.length : Int) + 1 ∧ (ws.b : Int) - (C.length : Int) + 1 ≤ 100 := by omega
        obtain ⟨kz, hkz⟩ : ∃ kz, kz = (ws.b : Int) - (C.length : Int) + 1 := ⟨_, rfl⟩
        rw [← hkz] at hk1 ⊢
        rename News _ _ _ _ => N
        rename Fr _ _ _ _ => F
        refine mulL F N (.head _) (by omega) fun D1 h6 F6 N6 l6 => ?_
        skip
        rename News _ _ _ _ => N
        rename Fr _ _ _ _ => F
        refine addL (vs := cv) (ws := List.replicate kz.toNat (.int 0 _)) F N (.tail _ (.tail _ (.tail _ (.head _)))) (.head _) (by rw [List.length_replicate, hC.length]; omega) fun D2 h7 F7 N7 l7 => ?_
        have hz : ((kz.toNat : Nat) : Int) = kz := Int.toNat_of_nonneg hk1.1
        have hI2 : @LT.lt Nat _ I D2 := l7 (I, o) (.tail _ (.tail _ (.head _)))
        have hx2 : @LT.lt Nat _ x D2 := l7 (x, instObj 127 dx) (.tail _ (.tail _ (.tail _ (.tail _ (.head _)))))
        obtain ⟨cv2, e2, C2, N, hCC, hC3, hCb2, hW2⟩ : ∃ cv2 e2 C2, News (hideAll s.heap (List.map (fun x => x.fst) [(x, instObj 127 dx), (dx, dictOf [] 0)])) L' h7 [(I, o), (D2, W.listOf cv2.toArray e2), (x, instObj 127 dx), (dx, dictOf [⟨rh, .str (Str.ofString "raw") rw, .str ⟨cl.toArray⟩ t⟩] 1)] ∧ IntsAre cv2 C2 ∧ C2.length = ws.b + 1 ∧ (∀ z ∈ C2, 0 ≤ z ∧ z ≤ (k : Int)) ∧ wsumF 0 C2 = (ws.W : Nat) := by
          refine ⟨_, _, _, nwC N7 (.tail _ (.tail _ (.tail _ (.head _)))) (nwC N7 (.head _) (nwC N7 (.tail _ (.tail _ (.tail _ (.tail _ (.tail _ (.head _)))))) (nwC N7 (.tail _ (.tail _ (.tail _ (.tail _ (.tail _ (.tail _ (.head _))))))) nwN))), hC.append (intsAre_zeros _ _), ?_, ?_, ?_⟩
          · rw [List.length_append, List.length_replicate]
            omega
          · intro z hz
            rcases List.mem_append.mp hz with hz | hz
            · exact hCb z hz
            · rw [List.eq_of_mem_replicate hz]; omega
          · rw [wsumF_zeros]; exact hW
        clear N7 l7 hC hW hC2 hge hk1 hz hkz hIl hCb
        have hCb := hCb2
        have hC := hCC
        have hW := hW2
        have hC2 : C2.length ≤ 65 := by omega
        iterate 14 (first | (k_unfold; (try dsimp only)) | walk1 | (dsimp only; walk1))
        rename News _ _ _ _ => N
        rename Fr _ _ _ _ => F
        refine setL F (newsSub N (b := (D2, W.listOf cv2.toArray e2) :: (I, o) :: (x, instObj 127 dx) :: (dx, dictOf [⟨rh, .str (Str.ofString "raw") rw, .str ⟨cl.toArray⟩ t⟩] 1) :: []) ?_) ?_ (by omega) (by rw [hC.length]; omega) (by omega) fun h8 F8 N8 => ?_
        · intro p hp
          simp only [List.mem_cons, List.mem_nil_iff, or_false] at hp ⊢
          rcases hp with hp | hp | hp | hp <;> simp [hp]
        · intro p hp
          simp only [List.mem_cons, List.mem_nil_iff, or_false] at hp
          rcases hp with rfl | rfl | rfl
          · exact Nat.ne_of_lt hI2
          · exact Nat.ne_of_lt hx2
          · exact Nat.ne_of_lt (Nat.lt_trans hlt hx2)
        clear F N
        iterate 7 (first | (k_unfold; (try dsimp only)) | walk1 | (dsimp only; walk1))
        dsimp only [UnrPost]
        rename Fr _ _ _ _ => F
        rename News _ _ _ _ => N
        refine UnrEnd.intro F (nwC N (.tail _ (.head _)) (nwC N (.head _) (nwC N (.tail _ (.tail _ (.head _))) (nwC N (.tail _ (.tail _ (.tail _ (.head _)))) nwN)))) _ (fun p hp => hp) ?_ ⟨_, _, _, D2, _, _, _, rfl, rfl, rfl, rfl, rfl, rfl, rfl, rfl, hx2, ints_set hC (ws.b : Int).toNat, ?_, ?_, ?_⟩
        · intro p hp
          simp only [List.mem_cons, List.mem_nil_iff, or_false] at hp
          rcases hp with rfl | rfl | rfl
          · exact (Nat.ne_of_lt hI2).symm
          · exact Nat.ne_of_lt hxI
          · exact Nat.ne_of_lt hdI
        · rw [List.length_set]; omega
        · intro z hz
          rcases List.mem_or_eq_of_mem_set hz with hz | rfl
          · have := hCb z hz; omega
          · have hm : (ws.b : Int).toNat < C2.length := by omega
            have := hCb _ (List.getElem_mem hm)
            rw [List.getD_eq_getElem?_getD, List.getElem?_eq_getElem hm, Option.getD_some]
            omega
        · have z := wsumF_set C2 0 ws.b (by omega)
          rw [Int.toNat_natCast, z, hW]
          show _ = (((ws.W + ws.b : Nat)) : Int)
          push_cast
          omega
      · rw [if_neg (by simpa using hge)]
        iterate 13 (first | (k_unfold; (try dsimp only)) | walk1 | (dsimp only; walk1))
        rename News _ _ _ _ => N
        rename Fr _ _ _ _ => F
        refine setL F (newsSub N (b := (l, W.listOf cv.toArray e) :: (I, o) :: (x, instObj 127 dx) :: (dx, dictOf [⟨rh, .str (Str.ofString "raw") rw, .str ⟨cl.toArray⟩ t⟩] 1) :: []) ?_) ?_ (by omega) (by rw [hC.length]; omega) (by omega) fun h8 F8 N8 => ?_
        · intro p hp
          simp only [List.mem_cons, List.mem_nil_iff, or_false] at hp ⊢
          rcases hp with hp | hp | hp | hp <;> simp [hp]
        · intro p hp
          simp only [List.mem_cons, List.mem_nil_iff, or_false] at hp
          rcases hp with rfl | rfl | rfl
          · exact hIl.symm
          · exact Nat.ne_of_lt hxl
          · exact Nat.ne_of_lt (Nat.lt_trans hlt hxl)
        clear F N
        iterate 7 (first | (k_unfold; (try dsimp only)) | walk1 | (dsimp only; walk1))
        dsimp only [UnrPost]
        rename Fr _ _ _ _ => F
        rename News _ _ _ _ => N
        refine UnrEnd.intro F (nwC N (.tail _ (.head _)) (nwC N (.head _) (nwC N (.tail _ (.tail _ (.head _))) (nwC N (.tail _ (.tail _ (.tail _ (.head _)))) nwN)))) _ (fun p hp => hp) ?_ ⟨_, _, _, l, _, _, _, rfl, rfl, rfl, rfl, rfl, rfl, rfl, rfl, hxl, ints_set hC (ws.b : Int).toNat, ?_, ?_, ?_⟩
        · intro p hp
          simp only [List.mem_cons, List.mem_nil_iff, or_false] at hp
          rcases hp with rfl | rfl | rfl
          · exact hIl.symm.symm
          · exact Nat.ne_of_lt hxI
          · exact Nat.ne_of_lt hdI
        · rw [List.length_set]; omega
        · intro z hz
          rcases List.mem_or_eq_of_mem_set hz with hz | rfl
          · have := hCb z hz; omega
          · have hm : (ws.b : Int).toNat < C.length := by omega
            have := hCb _ (List.getElem_mem hm)
            rw [List.getD_eq_getElem?_getD, List.getElem?_eq_getElem hm, Option.getD_some]
            omega
        · have z := wsumF_set C 0 ws.b (by omega)
          rw [Int.toNat_natCast, z, hW]
          show _ = (((ws.W + ws.b : Nat)) : Int)
          push_cast
          omega
  · rintro m₁ nx h tk ⟨tb, tn, tnt, l, cv, e, C, q1, q2, q3, q4, q5, q6, q7, rfl, hxl, hC, hC2, hCb, hW⟩ F N
    have F' := frKnow F [(Str.ofString "b", _), (Str.ofString "n", _), (Str.ofString "nt", _), (Str.ofString "count", _), (Str.ofString "self", _)] ⟨q1, q2, q3, q4, q7, trivial⟩
    clear F q1 q2 q3 q4 q5 q6 q7
    have hsz : (⟨cl.toArray⟩ : Str).cps.size = cl.length := by simp
    rw [hsz, List.take_length] at hW F'
    iterate 20 (first | (k_unfold; (try dsimp only)) | walk1 | (dsimp only; walk1))
    rename Fr _ _ _ _ => F
    rename News _ _ _ _ => N
    refine kde_tupleOf (items := cv.toArray) (zs := cv) F N ⟨_, (N _ (.head _)).1, rfl, e, rfl⟩ (by rw [List.size_toArray, hC.length]; omega) rfl fun Ct h6 F6 N6 l6 => ?_
    have lC : @LT.lt Nat _ x Ct := Nat.lt_trans hxl (l6 _ (.head _))
    clear l6 F N
    iterate 3 (first | (k_unfold; (try dsimp only)) | walk1 | (dsimp only; walk1))
    rename Fr _ _ _ _ => F
    rename News _ _ _ _ => N
    refine newTupleL F N fun Nn h7 F7 N7 l7 => ?_
    have hNC : @Ne Nat Ct Nn := l7 _ (.head _)
    have hNx : @Ne Nat x Nn := l7 (x, instObj 127 dx) (.tail _ (.tail _ (.head _)))
    have hNd : @Ne Nat dx Nn := l7 (dx, _) (.tail _ (.tail _ (.tail _ (.head _))))
    have lCd : @LT.lt Nat _ dx Ct := Nat.lt_trans hlt lC
    clear l7
    iterate 12 (first | (k_unfold; (try dsimp only)) | walk1 | (dsimp only; walk1))
    rename News _ _ _ _ => N
    refine kst_len (us := cv) (c := e) N (.tail _ (.tail _ (.head _))) hC.length (by omega) ?_
    (iterate 6 (first | (k_unfold; (try dsimp only)) | walk1 | (dsimp only; walk1)); (try dsimp only))
    rename News _ _ _ _ => N
    rename Fr _ _ _ _ => F
    have N4 := nwC N (.tail _ (.tail _ (.tail _ (.head _)))) (nwC N (.tail _ (.tail _ (.tail _ (.tail _ (.head _))))) (nwC N (.head _) (nwC N (.tail _ (.head _)) nwN)))
    refine hret _ _ Nn Ct cv C _ ⟨_, _, _, _, _, _, _, _, _, _, _, _, _, _, _, rfl⟩ hC hC2 (fun z hz => ⟨(hCb z hz).1, Int.le_trans (hCb z hz).2 (by rw [hsz]; omega)⟩) hW lC ⟨hNC, hNx, hNd⟩ (grew_of (ts := [(x, instObj 127 dx), (dx, dictOf [] 0)]) N4 fun p hp => hp) (fun b o hb q => F.keep b o (hideAll_get _ q hb))
end Mine
end
section
open PySem PySem.W PySem.Spec PySem.Calls PyProof.Rows
namespace Mine
set_option maxRecDepth 100000
set_option maxHeartbeats 8000000
theorem fill13 : (PySem.Challenge.rw_sn0080_01.row.prog = PySem.Challenge.rw_sn0080_01.row.prog) ∧ (Mine.K0 = Mine.K0) := by k_fill; exact ⟨rfl, rfl⟩

theorem wsumF_snoc : ∀ (l : List Int) (i : Nat) (y : Int), wsumF i (l ++ [y]) = wsumF i l + ((i + l.length : Nat) : Int) * y
  | [], i, y => by simp [wsumF]
  | x :: r, i, y => by
    have z := wsumF_snoc r (i + 1) y
    show (i : Int) * x + wsumF (i + 1) (r ++ [y]) = (i : Int) * x + wsumF (i + 1) r + _
    rw [z, List.length_cons, show i + 1 + r.length = i + (r.length + 1) by omega]
    omega
theorem wsumF_drop (l : List Int) : wsumF 1 (l.drop 1) = wsumF 0 l := by
  cases l with
  | nil => rfl
  | cons x r => show wsumF 1 r = ((0 : Nat) : Int) * x + wsumF 1 r; simp

theorem indent_fn (w : World) (cl : List Nat) (x dx Nn Ct : Addr) (cv : List Value) (C : List Int) (t : Tok) (hC : IntsAre cv C) (hC2 : C.length ≤ 65) (hCb : ∀ z ∈ C, 0 ≤ z ∧ z ≤ 64) (hW : wsumF 0 C = (wsOf cl).W) (hlt : @LT.lt Nat _ dx x) (lC : @LT.lt Nat _ x Ct) (hN : @Ne Nat Ct Nn ∧ @Ne Nat x Nn ∧ @Ne Nat dx Nn) :
    FnT w 96 [.ref x, .int 1 t] 2 20 (WsObj cl x dx Nn Ct cv) (fun _ => True) (fun _ v _ => ∃ t, v = .int ((wsOf cl).b + ((wsOf cl).W + (wsOf cl).nt)) t) := by
  intro ts dp un fr gd s R hT hts g hd hu _ hret
  obtain ⟨h1, h2, h3, h4, h5, k1, k2, k3, k4, k5, tr, tn, tnt, tb, b, rfl⟩ := hT
  obtain ⟨hN1, hN2, hN3⟩ := hN
  have lCd : @LT.lt Nat _ dx Ct := Nat.lt_trans hlt lC
  refine' enterH (binds := [(Str.ofString "self", .ref x), (Str.ofString "tabsize", .int 1 t)]) _ g hts ?k6 ?kd ?k7 ?k8 ?k9 ?kB ?_ ?c2 ?c3 ?c4 ?c5
  (case k6 => exact of_hideAll _ (fn_at g (by k_is)))
  (case kd => with_unfolding_all exact rfl)
  (case k7 => exact (codeRec_of g.k (by k_is)).keeps fun b o e => of_hideAll _ e)
  (case k8 => exact Nat.lt_of_le_of_lt (Nat.le_add_right _ _) hd)
  (case k9 => exact BindsTo.of_eq rfl)
  (case c5 => decide)
  (case kB => exact locs rfl); (case c2 => exact rfl); (case c3 => exact rfl); (case c4 => exact rfl)
  intro L' h' vw lo mean mg mb F N l0 X' T'
  iterate 18 (first | (k_unfold; (try dsimp only)) | walk1 | (dsimp only; walk1))
  refine forI ?_ (by intro _; rfl)
  iterate 12 (first | (k_unfold; (try dsimp only)) | walk1 | (dsimp only; walk1))
  rename News _ _ _ _ => N
  refine len_tuple (items := cv.toArray) ⟨_, (N (Ct, tupO cv) (.tail _ (.tail _ (.tail _ (.head _))))).1, rfl, _, rfl⟩ (by rw [List.size_toArray, hC.length]; omega) ?_
  rw [List.size_toArray, hC.length]
  iterate 2 (first | (k_unfold; (try dsimp only)) | walk1 | (dsimp only; walk1))
  rename IsRange _ _ _ _ _ _ _ _ => hr
  rename News _ _ _ _ => N
  rename Fr _ _ _ _ => F
  refine iterRange (n := C.length - 1) F N hr (by first | decide | exact small_one (by l_bnd) (by l_bnd) (by l_bnd) (by l_bnd)) (by have z := rangeSize_nat 1 (C.length : Int); rw [z]; omega) ?_
  intro I o h₁ ho hI F N
  clear hr
  obtain ⟨ld, hld⟩ : ∃ ld, ld = (dictOf [⟨h1, .str (Str.ofString "raw") k1, .str ⟨cl.toArray⟩ tr⟩, ⟨h2, .str (Str.ofString "n") k2, .int (wsOf cl).n tn⟩, ⟨h3, .str (Str.ofString "nt") k3, .int (wsOf cl).nt tnt⟩,
    ⟨h4, .str (Str.ofString "norm") k4, .ref Nn⟩, ⟨h5, .str (Str.ofString "is_simple") k5, .bool b⟩] 5) := ⟨_, rfl⟩
  refine loopI (Iter.range rfl 1 (C.length - 1)) (fun k m nx => ∃ tl, m (Str.ofString "il") = some (.int (wsumF 1 ((C.drop 1).take k)) tl) ∧ m (Str.ofString "tabsize") = some (.int 1 t) ∧ m (Str.ofString "count") = some (.ref Ct) ∧ m (Str.ofString "trailing") = some (.int (wsOf cl).b tb) ∧ m (Str.ofString "self") = some (.ref x) ∧
    nx = [(x, instObj 127 dx), (dx, ld), (Nn, tupO [.ref Ct, .int (wsOf cl).b tb]), (Ct, tupO cv)]) F ho N (fun p hp => Nat.ne_of_lt (hI p hp)) ⟨_, rfl, rfl, rfl, rfl, rfl, by rw [hld]⟩ (by intros; trivial) ?_ ?_
  · rintro k v m₁ nx h tk o hk hv hio ⟨tl, q1, q2, q3, q4, q5, rfl⟩ hoff F N
    obtain ⟨t₁, rfl⟩ := hv
    have F' := frKnow F [(Str.ofString "il", _), (Str.ofString "tabsize", _), (Str.ofString "count", _), (Str.ofString "trailing", _), (Str.ofString "self", _)] ⟨q1, q2, q3, q4, q5, trivial⟩
    clear F
    iterate 15 (first | (k_unfold; (try dsimp only)) | walk1 | (dsimp only; walk1))
    rename News _ _ _ _ => N
    refine item_tuple_ints (vs := cv) (ns := C) ⟨_, (N (Ct, tupO cv) (.tail _ (.tail _ (.tail _ (.tail _ (.head _)))))).1, rfl, _, rfl⟩ hC (by omega) (by omega) (by omega) ?_
    intro t₄
    skip
    rw [Int.fdiv_one]
    refine mul_int ?_ (IntMulOk.of_left (intBits_le_iff.mpr (by omega)))
    iterate 3 (first | (k_unfold; (try dsimp only)) | walk1 | (dsimp only; walk1))
    dsimp only [UnrPost]
    rename Fr _ _ _ _ => F
    rename News _ _ _ _ => N
    have hck : (C.drop 1)[k]? = some (C.getD (1 + (k : Int)).toNat 0) := by
      rw [List.getElem?_drop, show (1 + (k : Int)).toNat = 1 + k by omega, List.getD_eq_getElem?_getD, List.getElem?_eq_getElem (by omega)]; rfl
    refine UnrEnd.intro F N _ (fun p hp => hp) hoff ?_
    have e : wsumF 1 ((C.drop 1).take (k + 1)) = wsumF 1 ((C.drop 1).take k) + (1 + (k : Int)) * C.getD (1 + (k : Int)).toNat 0 := by
      rw [take_succ_of hck, wsumF_snoc, List.length_take, List.length_drop, Nat.min_eq_left (by omega)]
      rfl
    rw [e]
    exact ⟨_, rfl, rfl, rfl, rfl, rfl, rfl⟩
  · rintro m₁ nx h tk ⟨tl, q1, q2, q3, q4, q5, rfl⟩ F N
    have F' := frKnow F [(Str.ofString "il", _), (Str.ofString "tabsize", _), (Str.ofString "trailing", _), (Str.ofString "self", _)] ⟨q1, q2, q4, q5, trivial⟩
    clear F
    rw [show List.take (C.length - 1) (C.drop 1) = C.drop 1 from List.take_of_length_le (by rw [List.length_drop]; exact Nat.le_refl _), wsumF_drop, hW] at F'
    subst hld
    iterate 12 (first | (k_unfold; (try dsimp only)) | walk1 | (dsimp only; walk1))
    refine mul_int ?_ (IntMulOk.of_left (by decide))
    ((first | (k_unfold; (try dsimp only)) | walk1 | (dsimp only; walk1)); (try dsimp only))
    rename News _ _ _ _ => N
    rename Fr _ _ _ _ => F
    rw [Int.one_mul]
    exact hret _ _ _ _ ⟨h1, h2, h3, h4, h5, k1, k2, k3, k4, k5, tr, tn, tnt, tb, b, rfl⟩ (grew_of N fun p hp => hp) (fun b o hb q => F.keep b o (hideAll_get _ q hb)) ⟨_, rfl⟩
end Mine
end
section
open PySem PySem.W PySem.Spec PySem.Calls PyProof.Rows
namespace Mine
set_option maxRecDepth 100000
set_option maxHeartbeats 8000000
theorem fill11 : (PySem.Challenge.rw_sn0080_01.row.prog = PySem.Challenge.rw_sn0080_01.row.prog) ∧ (Mine.K0 = Mine.K0) := by k_fill; exact ⟨rfl, rfl⟩

def leadL (ds : List Nat) : List Nat := ds.flatMap fun k => List.replicate k 32 ++ [9]
def descOf (ws : List Int) (k : Nat) : List Nat := ((List.range k).filter fun i => decide (ws.getD (i + 1) 0 < ws.getD i 0)).map (· + 1)
def majOf (ws : List Int) : Nat := (descOf ws (ws.length - 1)).sum
theorem wsOf_run (cl : List Nat) : ∀ k, wsOf (cl ++ List.replicate k 32) = ⟨(wsOf cl).W, (wsOf cl).b + k, (wsOf cl).n + k, (wsOf cl).nt⟩
  | 0 => by simp
  | k + 1 => by
    rw [List.replicate_succ', ← List.append_assoc, wsOf_snoc, wsOf_run cl k]
    rfl
theorem wsOf_block (cl : List Nat) (k : Nat) : wsOf (cl ++ (List.replicate k 32 ++ [9])) = ⟨(wsOf cl).W + ((wsOf cl).b + k), 0, (wsOf cl).n + k + 1, (wsOf cl).nt + 1⟩ := by
  rw [← List.append_assoc, wsOf_snoc, wsOf_run]; rfl
theorem leadL_snoc (ds : List Nat) (k : Nat) : leadL (ds ++ [k]) = leadL ds ++ (List.replicate k 32 ++ [9]) := by
  unfold leadL; rw [List.flatMap_append]; simp
theorem wsOf_lead (ds : List Nat) : (wsOf (leadL ds)).W = ds.sum ∧ (wsOf (leadL ds)).b = 0 := by
  have key : ∀ (ds cl : List Nat), (wsOf cl).b = 0 → (wsOf (cl ++ leadL ds)).W = (wsOf cl).W + ds.sum ∧ (wsOf (cl ++ leadL ds)).b = 0 := by
    intro ds
    induction ds with
    | nil => intro cl h; simp [leadL, h]
    | cons d r ih =>
      intro cl h
      have z := ih (cl ++ (List.replicate d 32 ++ [9])) (by rw [wsOf_block])
      rw [wsOf_block, List.append_assoc] at z
      have e : leadL (d :: r) = List.replicate d 32 ++ [9] ++ leadL r := by unfold leadL; rw [List.flatMap_cons]
      rw [e]
      refine ⟨?_, z.2⟩
      rw [z.1, List.sum_cons, h]
      show (wsOf cl).W + (0 + d) + r.sum = _
      omega
  have z := key ds [] rfl
  simpa [wsOf] using z
theorem leadL_mem (ds : List Nat) : ∀ c ∈ leadL ds, c = 32 ∨ c = 9 := by
  intro c hc
  unfold leadL at hc
  obtain ⟨k, _, hk⟩ := List.mem_flatMap.mp hc
  rcases List.mem_append.mp hk with hk | hk
  · exact .inl (List.eq_of_mem_replicate hk)
  · exact .inr (by simpa using hk)
theorem descOf_succ (ws : List Int) (k : Nat) : descOf ws (k + 1) = descOf ws k ++ (if ws.getD (k + 1) 0 < ws.getD k 0 then [k + 1] else []) := by
  unfold descOf
  rw [List.range_succ, List.filter_append, List.map_append]
  by_cases h : ws.getD (k + 1) 0 < ws.getD k 0
  · rw [if_pos h, List.filter_cons_of_pos (by simpa using h)]; rfl
  · rw [if_neg h, List.filter_cons_of_neg (by simpa using h)]; rfl
theorem leadL_len (ws : List Int) : ∀ k, (leadL (descOf ws k)).length ≤ k * (k + 3) / 2 := by
  intro k
  induction k with
  | zero => exact Nat.zero_le _
  | succ k ih =>
    rw [descOf_succ]
    have e : (k + 1) * (k + 1 + 3) = k * (k + 3) + 2 * (k + 2) := by simp only [Nat.add_mul, Nat.mul_add]; omega
    split
    · rw [leadL_snoc, List.length_append, List.length_append, List.length_replicate]
      show _ + (k + 1 + 1) ≤ _
      omega
    · rw [List.append_nil]; omega

theorem foldl_repN (x : Nat) : ∀ (k : Nat) (a : Array Nat), (List.replicate k #[x]).foldl (fun x1 x2 => x1 ++ x2) a = a ++ (List.replicate k x).toArray
  | 0, a => by simp
  | k + 1, a => by
    rw [List.replicate_succ, List.foldl_cons, foldl_repN x k, List.replicate_succ]
    apply Array.toList_inj.mp
    simp
theorem mul_sp (k : Nat) : Txt.mul (Str.ofString " ") (1 + (k : Int)) = ⟨(List.replicate (k + 1) 32).toArray⟩ := by
  rw [show Str.ofString " " = (⟨#[32]⟩ : Str) by kernel_rfl]
  cases k with
  | zero => rfl
  | succ k =>
    unfold Txt.mul
    rw [if_neg (by omega), if_neg]
    · rw [show (1 + ((k + 1 : Nat) : Int)).toNat = k + 1 + 1 by omega, foldl_repN]
      simp
    · have e1 : ((1 + ((k + 1 : Nat) : Int)) == 1) = false := by rw [beq_eq_false_iff_ne]; omega
      rw [e1]
      decide
theorem app_block (cl : List Nat) (k : Nat) : (⟨cl.toArray⟩ : Str) ++ (⟨(List.replicate (k + 1) 32).toArray⟩ : Str) ++ Str.ofString "\t" = ⟨(cl ++ (List.replicate (k + 1) 32 ++ [9])).toArray⟩ := by
  rw [show Str.ofString "\t" = (⟨#[9]⟩ : Str) by kernel_rfl]
  show (⟨cl.toArray ++ (List.replicate (k + 1) 32).toArray ++ #[9]⟩ : Str) = _
  congr 1
  apply Array.toList_inj.mp
  simp
theorem init_any (w : World) (A : Around) (x dx : Addr) (cl : List Nat) (t : Tok) (hcl : ∀ c ∈ cl, c = 32 ∨ c = 9) (hcl2 : cl.length ≤ 64) (hh : A.handled = none) (hd : A.depth + 2 < recursionLimit) (hu : A.units + 20 < cLine) (s : Shared) (R : Result → Shared → Prop) (hlt : @LT.lt Nat _ dx x)
    (hts : ∀ p ∈ [(x, instObj 127 dx), (dx, dictOf [] 0)], s.heap.get? p.1 = some p.2) (g : G w (hideAll s.heap ([(x, instObj 127 dx), (dx, dictOf [] 0)].map (·.1))))
    (hret : ∀ h' tk' Nn Ct cv C news, WsObj cl x dx Nn Ct cv news → IntsAre cv C → C.length ≤ 65 → (∀ z ∈ C, 0 ≤ z ∧ z ≤ 64) → wsumF 0 C = (wsOf cl).W → (@LT.lt Nat _ x Ct) → (@Ne Nat Ct Nn ∧ @Ne Nat x Nn ∧ @Ne Nat dx Nn) → Grew s.heap h' [(x, instObj 127 dx), (dx, dictOf [] 0)] news →
      (∀ b o, b ∉ [(x, instObj 127 dx), (dx, dictOf [] 0)].map (·.1) → s.heap.get? b = some o → h'.get? b = some o) → R (.ok (.ret .none)) { s with heap := h', toks := tk' }) :
    codeAny (model prog w) A (.call (.ref 82) ⟨[.ref x, .str ⟨cl.toArray⟩ t], []⟩) R s := by
  obtain ⟨hd', dp, fr, gd, un⟩ := A
  cases hh
  exact init_fn w x dx cl t hcl hcl2 dp un fr gd s R hlt hts g hd hu hret
theorem major_fn (w : World) (a : Addr) (us : List Value) (ws : List Int) (hn : 1 ≤ ws.length ∧ ws.length ≤ 8) : Fn w 174 [.ref a] 6 60 (fun h => h.get? a = some (tupO us) ∧ IntsAre us ws) (fun _ v _ => ∃ t, v = .int (majOf ws) t) := by
  intro dp un fr gd s R g hd hu hpre hret
  obtain ⟨hl, hi⟩ := hpre
  (refine' enterH (binds := [(Str.ofString "word", .ref a)]) [] ?k0 ?ki ?k6 ?kd ?k7 ?k8 ?k9 ?kB ?_ ?c2 ?c3 ?c4 ?c5; (case k0 => assumption); (case ki => exact List.forall_mem_nil _); (case k6 => exact fn_at (by assumption) (by k_is)); (case kd => with_unfolding_all exact rfl); (case k7 => exact codeRec_of (G.k (by assumption)) (by k_is)); (case k8 => exact Nat.lt_of_le_of_lt (Nat.le_add_right _ _) hd); (case k9 => first | exact BindsTo.of_eq rfl | exact binds_K (G.k (by assumption)) rfl (by k_is) rfl rfl rfl); (case c5 => decide); (case kB => exact locs rfl); (case c2 => exact rfl); (case c3 => exact rfl); (case c4 => exact rfl); k_whole; intro L' h' vw lo mean mg mb F' N' l0 X' T'; clear l0; (try dsimp only [List.map_nil, hideAll] at *))
  iterate 5 (first | (k_unfold; (try dsimp only)) | walk1 | (dsimp only; walk1))
  refine forI ?_ (by intro _; rfl)
  iterate 12 (first | (k_unfold; (try dsimp only)) | walk1 | (dsimp only; walk1))
  rename Fr _ _ _ _ => F0
  refine len_tuple (items := us.toArray) ⟨_, F0.keep _ _ hl, rfl, _, rfl⟩ (by rw [List.size_toArray, hi.length]; omega) ?_
  rw [List.size_toArray, hi.length]
  iterate 2 (first | (k_unfold; (try dsimp only)) | walk1 | (dsimp only; walk1))
  rename IsRange _ _ _ _ _ _ _ _ => hr
  rename News _ _ _ _ => N2
  rename Fr _ _ _ _ => F2
  refine iterRange (n := ws.length - 1) F2 N2 hr (by first | decide | exact small_one (by l_bnd) (by l_bnd) (by l_bnd) (by l_bnd)) (by have z := rangeSize_nat 1 (ws.length : Int); rw [z]; omega) ?_
  intro I o h₁ ho hI F N
  clear F2 N2 hr
  refine loopI (Iter.range rfl 1 (ws.length - 1)) (fun k m nx => ∃ t, m (Str.ofString "lead") = some (.str ⟨(leadL (descOf ws k)).toArray⟩ t) ∧ m (Str.ofString "word") = some (.ref a) ∧ nx = []) F ho N (fun p hp => Nat.ne_of_lt (hI p hp)) ⟨_, rfl, rfl, rfl⟩ (by intros; trivial) ?_ ?_
  · rintro k v m₁ nx h tk o hk hv hio ⟨t, q1, q2, rfl⟩ hoff F N
    obtain ⟨t₁, rfl⟩ := hv
    have F' := frKnow F [(Str.ofString "lead", _), (Str.ofString "word", _)] ⟨q1, q2, trivial⟩
    clear F
    iterate 9 (first | (k_unfold; (try dsimp only)) | walk1 | (dsimp only; walk1))
    rename Fr _ _ _ _ => F
    refine item_tuple_ints (vs := us) (ns := ws) ⟨_, F.keep _ _ hl, rfl, _, rfl⟩ hi (by omega) (by omega) (by omega) ?_
    intro t₂
    iterate 6 (first | (k_unfold; (try dsimp only)) | walk1 | (dsimp only; walk1))
    rename Fr _ _ _ _ => F
    refine item_tuple_ints (vs := us) (ns := ws) ⟨_, F.keep _ _ hl, rfl, _, rfl⟩ hi (by omega) (by omega) (by omega) ?_
    intro t₃
    (first | (k_unfold; (try dsimp only)) | walk1 | (dsimp only; walk1))
    (first | (k_unfold; (try dsimp only)) | walk1 | (dsimp only; walk1))
    rw [show (1 + (k : Int)).toNat = k + 1 by omega, show (1 + (k : Int) - 1).toNat = k by omega, descOf_succ]
    have hll := leadL_len ws k
    have hl7 : k * (k + 3) / 2 ≤ 35 := by
      have : k * (k + 3) ≤ 7 * 10 := Nat.mul_le_mul (by omega) (by omega)
      omega
    by_cases hlt : ws.getD (k + 1) 0 < ws.getD k 0
    · rw [if_pos (decide_eq_true hlt), if_pos hlt, leadL_snoc]
      generalize leadL (descOf ws k) = cl at *
      iterate 9 (first | (k_unfold; (try dsimp only)) | walk1 | (dsimp only; walk1))
      refine SB.mul (mulOk_of 16 1048576 (by decide) (by omega) (by omega) (by decide) (by decide)) ?_
      intro t₅ k₅
      rw [mul_sp]
      refine add_str (fun t₆ k₆ => ?_) ?_
      · (first | (k_unfold; (try dsimp only)) | walk1 | (dsimp only; walk1))
        refine add_str (fun t₇ k₇ => ?_) ?_
        · rw [app_block]
          iterate 3 (first | (k_unfold; (try dsimp only)) | walk1 | (dsimp only; walk1))
          dsimp only [UnrPost]
          rename Fr _ _ _ _ => F
          rename News _ _ _ _ => N
          exact UnrEnd.intro F N _ (fun p hp => hp) hoff ⟨_, rfl, rfl, rfl⟩
        · show (cl.toArray ++ (List.replicate (k + 1) 32).toArray).size + (Str.ofString "\t").length ≤ sizeLine
          rw [show (Str.ofString "\t").length = 1 by kernel_rfl, Array.size_append, List.size_toArray, List.size_toArray, List.length_replicate]
          exact Nat.le_trans (show _ ≤ 100 by omega) (by decide)
      · show cl.toArray.size + (List.replicate (k + 1) 32).toArray.size ≤ sizeLine
        rw [List.size_toArray, List.size_toArray, List.length_replicate]
        exact Nat.le_trans (show _ ≤ 100 by omega) (by decide)
    · rw [if_neg (by simpa using hlt), if_neg hlt, List.append_nil]
      iterate 3 (first | (k_unfold; (try dsimp only)) | walk1 | (dsimp only; walk1))
      dsimp only [UnrPost]
      rename Fr _ _ _ _ => F
      rename News _ _ _ _ => N
      exact UnrEnd.intro F N _ (fun p hp => hp) hoff ⟨_, rfl, rfl, rfl⟩
  · rintro m₁ nx h tk ⟨t, q1, q2, rfl⟩ F N
    have F' := frKnow F [(Str.ofString "lead", _), (Str.ofString "word", _)] ⟨q1, q2, trivial⟩
    clear F
    iterate 9 (first | (k_unfold; (try dsimp only)) | walk1 | (dsimp only; walk1))
    rename Fr _ _ _ _ => F
    rename News _ _ _ _ => N
    refine call_cls F X' N (by k_is) (by k_is) (by k_is) ?_
    intro x dx h₂ F₂ N₂ l2 hlt
    have hlen := leadL_len ws (ws.length - 1)
    have hl7 : (ws.length - 1) * ((ws.length - 1) + 3) / 2 ≤ 35 := by
      have : (ws.length - 1) * ((ws.length - 1) + 3) ≤ 7 * 10 := Nat.mul_le_mul (by omega) (by omega)
      omega
    refine init_any w _ x dx (leadL (descOf ws (ws.length - 1))) t (leadL_mem _) (by omega) rfl ?_ ?_ _ _ hlt (fun p hp => (N₂ p hp).1) ?_ ?_
    · first | (show dp + 1 + 2 < _; omega) | (show dp + 1 + 1 + 2 < _; omega)
    · first | (show un + 3 + 20 < _; omega) | (show un + 3 + 1 + 20 < _; omega) | (show un + 3 + 2 + 20 < _; omega) | (show un + 3 + 3 + 20 < _; omega)
    · exact g.keeps (stays_under F₂ N₂)
    · intro h₃ tk₃ Nn Ct cv C news hWs hC hC2 hCb hW lC hN gr kp
      obtain ⟨F₃, N₃, _⟩ := grown (rest := []) F₂ N₂ (fun p hp => by cases hp) gr kp
      refine ⟨rfl, ?_⟩
      have hWs' := hWs
      obtain ⟨h1, h2, h3, h4, h5, k1, k2, k3, k4, k5, tr, tn, tnt, tb, b, rfl⟩ := hWs
      obtain ⟨hN1, hN2, hN3⟩ := hN
      clear F₂ N₂ F N gr kp
      dsimp only
      iterate 13 (first | (k_unfold; (try dsimp only)) | walk1 | (dsimp only; walk1))
      rename Fr _ _ _ _ => F
      rename News _ _ _ _ => N
      refine (indent_fn w (leadL (descOf ws (ws.length - 1))) x dx Nn Ct cv C _ hC hC2 hCb hW hlt lC ⟨hN1, hN2, hN3⟩).use (rest := []) g F N (fun p hp => by cases hp) hWs' rfl ?_ ?_ trivial ?_
      · show dp + 1 + 2 < _; omega
      · show un + 3 + _ < _; first | exact ltU hu (by decide) | omega
      rintro v h₄ tk₄ ts' hT' F₄ N₄ _ ⟨t₄, rfl⟩
      clear F N F₃ N₃ hWs'
      obtain ⟨h1, h2, h3, h4, h5, k1, k2, k3, k4, k5, tr, tn, tnt, tb, b, rfl⟩ := hT'
      dsimp only
      iterate 3 (first | (k_unfold; (try dsimp only)) | walk1 | (dsimp only; walk1))
      rw [(wsOf_lead _).1, (wsOf_lead _).2]
      ((first | (k_unfold; (try dsimp only)) | walk1 | (dsimp only; walk1)); (try dsimp only))
      have e : ∀ S n : Nat, ((0 : Nat) : Int) + ((S : Int) + (n : Int)) - (n : Int) = (S : Int) := by intro S n; omega
      rw [e]
      exact hret _ _ _ (Fr.keep (by assumption)) ⟨_, rfl⟩
end Mine
end
section
open PySem PySem.W PySem.Spec PySem.Calls PyProof.Rows
namespace Mine
set_option maxRecDepth 100000
set_option maxHeartbeats 8000000
theorem fill14 : (PySem.Challenge.rw_sn0080_01.row.prog = PySem.Challenge.rw_sn0080_01.row.prog) ∧ (Mine.K0 = Mine.K0) := by k_fill; exact ⟨rfl, rfl⟩

def majL (wss : List (List Int)) : List Int := wss.map fun ws => (majOf ws : Int)
def topOf (ns : List Int) : Nat := (ns.foldl max 0).toNat
def countsOf (ns : List Int) : List Int := (List.range (topOf ns + 1)).map fun (k : Nat) => ((ns.count (k : Int) : Nat) : Int)
theorem foldl_max (l : List Int) : ∀ a : Int, a ≤ l.foldl max a ∧ (∀ x ∈ l, x ≤ l.foldl max a) ∧ (l.foldl max a = a ∨ l.foldl max a ∈ l) := by
  induction l with
  | nil => intro a; exact ⟨Int.le_refl _, (fun x hx => by cases hx), .inl rfl⟩
  | cons y r ih =>
    intro a
    obtain ⟨z1, z2, z3⟩ := ih (max a y)
    rw [List.foldl_cons]
    refine ⟨by omega, fun x hx => ?_, ?_⟩
    · rcases List.mem_cons.mp hx with rfl | hx
      · omega
      · exact z2 x hx
    · rcases z3 with z3 | z3
      · rw [z3]
        by_cases h : a ≤ y
        · right; rw [Int.max_eq_right h]; exact .head _
        · left; exact Int.max_eq_left (by omega)
      · exact .inr (.tail _ z3)
theorem top_eq {ns : List Int} {M : Int} (h0 : ∀ x ∈ ns, 0 ≤ x) (hm : M ∈ ns) (hM : ∀ a ∈ ns, a ≤ M) : M = (topOf ns : Nat) := by
  obtain ⟨z1, z2, z3⟩ := foldl_max ns 0
  have y1 := z2 M hm
  have y2 := h0 M hm
  unfold topOf
  rcases z3 with z3 | z3
  · omega
  · have := hM _ z3; omega
theorem majors_fn (w : World) (a : Addr) (vs : List Value) (wss : List (List Int)) (h1 : 0 < wss.length) (h4 : ∀ n ∈ majL wss, n ≤ 1000) (h2 : wss.length ≤ 1000) (h3 : ∀ ws ∈ wss, 1 ≤ ws.length ∧ ws.length ≤ 8) :
    Fn w 179 [.ref a] 10 100 (fun h => h.IsList a vs.toArray ∧ Tups (inH h) vs wss) (fun h v h' => FreshInts h v h' (countsOf (majL wss))) := by
  intro dp un fr gd s R g hd hu hpre hret
  obtain ⟨hl, hT⟩ := hpre
  (refine' enterHC (binds := [(Str.ofString "words", .ref a)]) [] ?k0 ?ki ?k6 ?kd ?k7 ?k8 ?k9 ?kB ?kD ?_ ?c2 ?c3 ?c4; (case k0 => assumption); (case ki => exact List.forall_mem_nil _); (case k6 => exact fn_at (by assumption) (by k_is)); (case kd => with_unfolding_all exact rfl); (case k7 => exact codeRec_of (G.k (by assumption)) (by k_is)); (case k8 => exact Nat.lt_of_le_of_lt (Nat.le_add_right _ _) hd); (case k9 => first | exact BindsTo.of_eq rfl | exact binds_K (G.k (by assumption)) rfl (by k_is) rfl rfl rfl); (case kB => exact rfl); (case kD => decide +kernel); (case c2 => exact rfl); (case c3 => exact rfl); (case c4 => exact rfl); k_whole; intro L' h' tk' cells' vw lo mean mg mb F' N' Y' l0 X' T'; clear l0; k_cells Y'; (try simp only [List.cons_append, List.nil_append] at N'); (try dsimp only [List.map_nil, hideAll] at *))
  iterate 2 (first | (k_unfold; (try dsimp only)) | walk1 | (dsimp only; walk1))
  rename Fr _ _ _ _ => F
  refine LCg.ListComp_U F (cl := []) (by with_unfolding_all rfl) (by decide) (by rfl) (by decide) (by rfl) ?_
  (first | (k_unfold; (try dsimp only)) | walk1 | (dsimp only; walk1))
  rename Fr _ _ _ _ => F
  rename News _ _ _ _ => N
  refine LCg.CompSrc.base (its := vs.toArray) rfl F N hl (by rw [List.size_toArray, hT.length]; exact Nat.le_trans h2 (by decide)) fun hg => ?_
  rw [List.size_toArray, hT.length]
  suffices key : ∀ (j i : Nat) (ys : List Value), i + j = wss.length → IntsAre ys ((wss.take i).map fun ws => (majOf ws : Int)) → LCg.CompRest _ _ _ _ _ _ _ _ _ _ _ _ _ _ _ j i ys _ from key wss.length 0 [] (by omega) .nil
  intro j
  induction j with
  | zero =>
    intro i ys hij hys
    obtain rfl : i = wss.length := by omega
    rw [List.take_length] at hys
    refine LCg.CompRest.zero ?_
    intro D h₂ tk₂ F₂ N₂ _
    replace hys : IntsAre ys (majL wss) := hys
    have hL : (majL wss).length = wss.length := List.length_map _
    have h0 : ∀ x ∈ majL wss, 0 ≤ x := fun x hx => by obtain ⟨w, _, rfl⟩ := List.mem_map.mp hx; exact Int.natCast_nonneg _
    generalize majL wss = ns at *
    iterate 3 (first | (k_unfold; (try dsimp only)) | walk1 | (dsimp only; walk1))
    rename Fr _ _ _ _ => F
    refine LCg.ListComp_U F (by with_unfolding_all rfl) (by decide) (by rfl) (by decide) (by rfl) ?_
    iterate 11 (first | (k_unfold; (try dsimp only)) | walk1 | (dsimp only; walk1))
    rename Fr _ _ _ _ => F
    rename News _ _ _ _ => N
    refine kso_max (vs := ys) F N ⟨_, (N _ (.head _)).1, rfl, _, rfl⟩ hys (by omega) rfl ?_
    intro h₃ M t₃ tk₃ F₃ N₃ hM1 hM2
    obtain rfl := top_eq h0 hM1 hM2
    have hM3 := h4 _ hM1
    iterate 4 (first | (k_unfold; (try dsimp only)) | walk1 | (dsimp only; walk1))
    rename IsRange _ _ _ _ _ _ _ _ => hr
    rename Fr _ _ _ _ => F
    rename News _ _ _ _ => N
    rename Obj.data _ = Data.cell (some (Value.ref D)) => hcell
    refine LCg.CompSrc.range (n := topOf ns + 1) rfl F N hr (small_one (by omega) (by omega) (by omega) (by omega)) (by have z := rangeSize_nat 0 ((topOf ns : Int) + 1); rw [z]; omega) (Nat.le_trans (show topOf ns + 1 ≤ 2000 by omega) (by decide)) fun hg => ?_
    clear hr F N
    suffices key : ∀ (j i : Nat) (ys : List Value), i + j = topOf ns + 1 → IntsAre ys ((List.range i).map fun (k : Nat) => ((ns.count (k : Int) : Nat) : Int)) → LCg.CompRest _ _ _ _ _ _ _ _ _ _ _ _ _ _ _ j i ys _ from key (topOf ns + 1) 0 [] (by omega) .nil
    intro j
    induction j with
    | zero =>
      intro i zs hij hzs
      obtain rfl : i = topOf ns + 1 := by omega
      refine LCg.CompRest.zero ?_
      intro D2 h₄ tk₄ F₄ N₄ _
      (skip; (try dsimp only))
      exact hret _ _ _ F₄.keep ⟨D2, zs, zs.length, rfl, (N₄ _ (.head _)).2.2, (N₄ _ (.head _)).1, hzs⟩
    | succ j ih =>
      intro i zs hij hzs
      refine LCg.CompRest.succ ?_
      intro v I oI C oC D2 m₂ h₄ tk₄ E' hv hC hx F₄ N₄ off hne
      obtain ⟨t₄, rfl⟩ := hv
      iterate 8 (first | (k_unfold; (try dsimp only)) | walk1 | (dsimp only; walk1))
      rename News _ _ _ _ => N
      refine count_list_ints (vs := ys) ⟨_, (N _ (.tail _ (.tail _ (.tail _ (.head _))))).1, rfl, _, rfl⟩ hys ?_
      k_unfold
      dsimp only
      refine LCg.CompEnd.intro F₄ N _ (fun p hp => hp) off trivial (ih (i + 1) _ (by omega) ?_)
      rw [List.range_succ, List.map_append]
      have e : (0 : Int) + (i : Int) = (i : Int) := Int.zero_add _
      rw [e]
      exact hzs.append (.cons _ _ .nil)
  | succ j ih =>
    intro i ys hij hys
    refine LCg.CompRest.succ ?_
    intro v I oI C oC D m₂ h₂ tk₂ E' hv hC hx F₂ N₂ off hne
    obtain ⟨ta, us, ws, rfl, hin, hus, hws⟩ := hT.at i v (by simpa using hv)
    iterate 8 (first | (k_unfold; (try dsimp only)) | walk1 | (dsimp only; walk1))
    refine (major_fn w ta us ws (h3 ws (List.mem_of_getElem? hws))).use g F₂ N₂ rfl ?_ ?_ ⟨F₂.keep _ _ hin, hus⟩ ?_
    · show dp + 1 + _ < _; first | exact ltD hd (by decide) | omega
    · show un + 3 + _ < _; first | exact ltU hu (by decide) | omega
    rintro v h₃ tk₃ hk₃ F₃ N₃ ⟨t₃, rfl⟩
    k_unfold
    dsimp only
    refine LCg.CompEnd.intro F₃ N₃ _ (fun p hp => hp) off (.inl hl) (ih (i + 1) _ (by omega) ?_)
    rw [take_succ_of hws, List.map_append]
    exact hys.append (.cons _ _ .nil)
end Mine
end
section
open PySem PySem.W PySem.Spec PySem.Calls PyProof.Rows
namespace Mine
set_option maxRecDepth 100000
set_option maxHeartbeats 1000000

def ltL : List Int → List Int → Bool
  | [], [] => false
  | [], _ :: _ => true
  | _ :: _, [] => false
  | a :: as, b :: bs => if a = b then ltL as bs else decide (a < b)

section
variable {w : World} {A : Around} {E : Value → Shared → Prop} {s : Shared} {a b : Addr} {xs ys : List Value} {x y : List Int}
theorem tlt_tree {P : Fin → Shared → Prop} (ha : s.heap.get? a = some (tupO xs)) (hb : s.heap.get? b = some (tupO ys)) (hx : IntsAre xs x) (hy : IntsAre ys y) (h : P (.done (.ret (.bool (ltL x y)))) s) :
    wpAny (model prog w) A (Builtin.«tuple.__lt__» ⟨[.ref a, .ref b], []⟩) P E s := by
  show wpAny _ _ (isInstance (.ref b) (.type "tuple") >>= _) _ _ s
  refine wpAny_bind (wpAny_isInstance (T := "tuple") ⟨_, hb, rfl⟩ isSubtype_tuple_tuple ?_)
  simp only [Bool.not_true, Bool.false_eq_true, if_false]
  refine wpAny_bind (wpAny_tupleItemsOf ha rfl ?_)
  refine wpAny_bind (wpAny_tupleItemsOf hb rfl ?_)
  refine wpAny_bind ?_
  refine wpAny_forIn_list _
    (fun rest r s' => r.1 = none ∧ s' = s ∧ ∃ x' y' xs' ys', rest = List.zip xs' ys' ∧ IntsAre xs' x' ∧ IntsAre ys' y' ∧ ltL x' y' = ltL x y ∧ decide (xs'.length < ys'.length) = decide (xs.length < ys.length))
    _ ?_ ?_ _ _ ⟨rfl, rfl, x, y, xs, ys, rfl, hx, hy, rfl, rfl⟩
  · rintro ⟨u, v⟩ rest r s' ⟨hr, rfl, x', y', xs', ys', hz, hx', hy', hdec, hlen⟩
    cases hx' with
    | nil => simp at hz
    | cons k1 t1 hx'' =>
      cases hy' with
      | nil => simp at hz
      | cons k2 t2 hy'' =>
        simp only [List.zip_cons_cons, List.cons.injEq, Prod.mk.injEq] at hz
        obtain ⟨⟨rfl, rfl⟩, rfl⟩ := hz
        refine wpAny_bind (wpAny_eqBool_int ?_)
        by_cases hk : k1 = k2
        · subst hk
          rw [show (k1 == k1) = true from beq_self_eq_true _]
          simp only [Bool.not_true, Bool.false_eq_true, if_false]
          refine wpAny_pure ⟨rfl, rfl, _, _, _, _, rfl, hx'', hy'', ?_, by simpa using hlen⟩
          rw [← hdec]
          simp [ltL]
        · rw [show (k1 == k2) = false from beq_eq_false_iff_ne.mpr hk]
          simp only [Bool.not_false, if_true]
          have hf : ltL x y = decide (k1 < k2) := by rw [← hdec]; simp [ltL, hk]
          rw [hf] at h
          refine wpAny_bind (wpAny_rule (wpAny_bind (richCompare_gives (op := .Lt) (typeIs_int _ _ _) (typeIs_int _ _ _) PySem.F.slot_int_lt PySem.F.entry_int_lt (PySem.F.args_int_lt_2 _ _) (gives_int_lt _ _ _ _) (fun x => nomatch x) ?_)))
          exact wpAny_bind (wpAny_pure (wpAny_pure (wpAny_pure h)))
  · rintro ⟨r1, r2⟩ s' ⟨hr, rfl, x', y', xs', ys', hz, hx', hy', hdec, hlen⟩
    simp only at hr
    subst hr
    refine wpAny_pure ?_
    have hfin : decide (xs.length < ys.length) = ltL x y := by
      rw [← hdec, ← hlen]
      cases hx' with
      | nil =>
        cases hy' with
        | nil => simp [ltL]
        | cons _ _ => simp [ltL]
      | cons _ _ =>
        cases hy' with
        | nil => simp [ltL]
        | cons _ _ => simp at hz
    show P (.done (.ret (.bool (decide (xs.length < ys.length))))) s'
    rw [hfin]; exact h
theorem lt_tuples {Q : Value → Shared → Prop} (ha : s.heap.get? a = some (tupO xs)) (hb : s.heap.get? b = some (tupO ys)) (hx : IntsAre xs x) (hy : IntsAre ys y) (hu : A.units < cLine) (h : Q (.bool (ltL x y)) s) :
    wpAny (model prog w) A (compareOp .Lt (.ref a) (.ref b)) Q E s := by
  show wpAny _ _ (richCompare .Lt (.ref a) (.ref b)) _ _ _
  refine wpAny_richCompare_same_room (T := "tuple") ⟨_, ha, rfl⟩ ⟨_, hb, rfl⟩ PySem.F.slot_tuple_lt ?_ hu
  refine wpAny_call_entry PySem.F.slot_tuple_lt ⟨_, ha, rfl⟩ PySem.F.entry_tuple_lt ?_ (PySem.F.args_tuple_lt_2 _ _)
  exact tlt_tree ha hb hx hy ⟨_, rfl, (fun x => nomatch x), h⟩
end
end Mine
end
section
open PySem PySem.W PySem.Spec PySem.Calls PyProof.Rows
namespace Mine
set_option maxRecDepth 100000
set_option maxHeartbeats 1000000
/-- what a tree of looks gives, of the written part -/
def runK {α : Type} (K : Frag) : Nat → Sem α → Option α
  | 0, _ => none
  | _ + 1, .pure a => some a
  | n + 1, .load a _ k => match K.lookup a with
    | some o => runK K n (k o)
    | none => none
  | _ + 1, _ => none
theorem runK_wp {α : Type} {K : Frag} {M : Model} {A : Around} {E : Value → Shared → Prop} {s : Shared} (X : K.In s.heap) : ∀ (n : Nat) (t : Sem α) (r : α) (Q : α → Shared → Prop), runK K n t = some r → Q r s → wpAny M A t Q E s
  | 0, t, r, Q, h, q => by cases h
  | n + 1, t, r, Q, h, q => by
    cases t with
    | pure a => cases h; exact wpAny_pure q
    | load a p k =>
      have h' : (match K.lookup a with | some o => runK K n (k o) | none => none) = some r := h
      cases e : K.lookup a with
      | none => rw [e] at h'; cases h'
      | some o =>
        rw [e] at h'
        exact wpAny_bind (m := loadPart a p) (f := k) (wpAny_loadPart (X a o e) (runK_wp X n (k o) r Q h' q))
    | _ => cases h
noncomputable abbrev fd65 : FuncData := fnX (dName (stm 9)) (dName (stm 9)) (dArgs (stm 9)) (dBody (stm 9)) (dScope (stm 9)) [] (.ref 57) (.ref 58) .none (.str "cpy313.bisect" 266) none (.ref 64) .none
theorem binds65 {w : World} {s : Shared} (a b : Addr) (X : (K0 w.params).In s.heap) : BindsTo s fd65 ⟨[.ref a, .ref b], []⟩ [(Str.ofString "a", .ref a), (Str.ofString "x", .ref b), (Str.ofString "lo", .int 0 268), (Str.ofString "hi", .none), (Str.ofString "key", .none)] := by
  intro M A E Q hq
  exact runK_wp X 9 _ _ _ (by kernel_rfl) hq
section
variable {w : World} {A : Around} {s : Shared} {h₀ : Heap} {env : Env}
def WEnd (h₀ : Heap) (L : Addr) (s₁ : Shared) (J : (Str → Option Value) → List (Addr × Obj) → Prop) (f : Flow) (s₂ : Shared) : Prop :=
  f = .next ∧ ∃ h' tk m' nx, s₂ = { s₁ with heap := h', toks := tk } ∧ Fr h₀ L h' m' ∧ News h₀ L h' nx ∧ J m' nx
theorem whileI {test : PySem.Expr} {body : List Stmt} {pos : Pos} {m : Str → Option Value} {news : List (Addr × Obj)} {n : Nat} {Q : Flow → Shared → Prop} (J : Nat → (Str → Option Value) → List (Addr × Obj) → Prop)
    (F : Fr h₀ env.locals s.heap m) (N : News h₀ env.locals s.heap news) (hj : J n m news)
    (turn : ∀ k m₁ nx h tk, J k m₁ nx → Fr h₀ env.locals h m₁ → News h₀ env.locals h nx →
      wpAny (model prog w) A (PySem.isTrue test env (eval test env)) (fun b s₂ => if b = true then wpAny (model prog w) A (execs body env) (WEnd h₀ env.locals { s with heap := h, toks := tk } (fun m nx => ∃ j, j < k ∧ J j m nx)) (fun _ _ => False) s₂ else Q .next s₂) (fun _ _ => False) { s with heap := h, toks := tk }) :
    wpAny (model prog w) A (exec (.While test body [] pos) env) Q (fun _ _ => False) s := by
  refine wpAny_While ?_
  refine codeAny_whileLoop (fun k s' => ∃ m' nx h tk, s' = { s with heap := h, toks := tk } ∧ J k m' nx ∧ Fr h₀ env.locals h m' ∧ News h₀ env.locals h nx) ?_ n ⟨m, news, s.heap, s.toks, rfl, hj, F, N⟩
  rintro k s' ⟨m', nx, h, tk, rfl, hJ, F', N'⟩
  refine wpAny_noRaise (wpAny_mono (turn k m' nx h tk hJ F' N') (fun b s₂ h₂ => ?_) fun _ _ e => e)
  cases b with
  | true =>
    simp only [if_true] at h₂ ⊢
    refine wpAny_noRaise (wpAny_mono h₂ (fun f s₃ h₃ => ?_) fun _ _ e => e)
    obtain ⟨rfl, h', tk', m₂, nx₂, rfl, F₂, N₂, j, hj, hJ₂⟩ := h₃
    exact ⟨j, hj, m₂, nx₂, h', tk', rfl, hJ₂, F₂, N₂⟩
  | false =>
    simp only [Bool.false_eq_true, if_false] at h₂ ⊢
    exact wpAny_execs_nil h₂
end
end Mine
end
section
open PySem PySem.W PySem.Spec PySem.Calls PyProof.Rows
namespace Mine
set_option maxRecDepth 100000
set_option maxHeartbeats 8000000
theorem fill15 : (PySem.Challenge.rw_sn0080_01.row.prog = PySem.Challenge.rw_sn0080_01.row.prog) ∧ (Mine.K0 = Mine.K0) := by k_fill; exact ⟨rfl, rfl⟩

def bisF (W : List (List Int)) (x : List Int) : Nat → Nat → Nat → Nat
  | 0, lo, _ => lo
  | f + 1, lo, hi => if lo < hi then (if ltL (W.getD ((lo + hi) / 2) []) x then bisF W x f ((lo + hi) / 2 + 1) hi else bisF W x f lo ((lo + hi) / 2)) else lo
def bis (W : List (List Int)) (x : List Int) : Nat := bisF W x W.length 0 W.length
theorem bis_fn (w : World) (a b : Addr) (vs us : List Value) (W : List (List Int)) (x : List Int) (h2 : W.length ≤ 1000) :
    Fn w 65 [.ref a, .ref b] 4 100 (fun h => h.IsList a vs.toArray ∧ Tups (inH h) vs W ∧ h.get? b = some (tupO us) ∧ IntsAre us x) (fun _ v _ => ∃ t, v = .int (bis W x) t) := by
  intro dp un fr gd s R g hd hu hpre hret
  obtain ⟨hl, hT, hb, hus⟩ := hpre
  refine' enterH (binds := [(Str.ofString "a", .ref a), (Str.ofString "x", .ref b), (Str.ofString "lo", .int 0 268), (Str.ofString "hi", .none), (Str.ofString "key", .none)]) [] g ?ki ?k6 ?kd ?k7 ?k8 ?k9 ?kB ?_ ?c2 ?c3 ?c4 ?c5
  (case ki => exact List.forall_mem_nil _)
  (case k6 => exact fn_at g (by k_is))
  (case kd => with_unfolding_all exact rfl)
  (case k7 => exact codeRec_of g.k (by k_is))
  (case k8 => exact Nat.lt_of_le_of_lt (Nat.le_add_right _ _) hd)
  (case k9 => exact binds65 a b g.k)
  (case c5 => decide)
  (case kB => exact locs rfl); (case c2 => exact rfl); (case c3 => exact rfl); (case c4 => exact rfl)
  intro L' h' vw lo mean mg mb F N l0 X' T'
  iterate 26 (first | (k_unfold; (try dsimp only)) | walk1 | (dsimp only; walk1))
  rename Fr _ _ _ _ => F
  refine len_list (hl.at fun o e => F.keep _ _ e) (by rw [List.size_toArray, hT.length]; omega) ?_
  rw [List.size_toArray, hT.length]
  iterate 12 (first | (k_unfold; (try dsimp only)) | walk1 | (dsimp only; walk1))
  rename Fr _ _ _ _ => F
  rename News _ _ _ _ => N
  refine whileI (n := W.length) (fun k m nx => ∃ l h t1 t2, m (Str.ofString "a") = some (.ref a) ∧ m (Str.ofString "x") = some (.ref b) ∧ m (Str.ofString "lo") = some (.int (l : Nat) t1) ∧ m (Str.ofString "hi") = some (.int (h : Nat) t2) ∧ nx = [] ∧ h ≤ W.length ∧ l ≤ h ∧ h ≤ l + k ∧ k ≤ W.length ∧ bisF W x k l h = bis W x) F N ⟨0, W.length, _, _, rfl, rfl, rfl, rfl, rfl, Nat.le_refl _, Nat.zero_le _, by omega, Nat.le_refl _, rfl⟩ ?_
  rintro k m₁ nx h tk ⟨l, u, t1, t2, q1, q2, q3, q4, rfl, hu1, hlu, hk, hkW, hbis⟩ F N
  have F' := frKnow F [(Str.ofString "a", _), (Str.ofString "x", _), (Str.ofString "lo", _), (Str.ofString "hi", _)] ⟨q1, q2, q3, q4, trivial⟩
  clear F
  iterate 4 (first | (k_unfold; (try dsimp only)) | walk1 | (dsimp only; walk1))
  (first | (k_unfold; (try dsimp only)) | walk1 | (dsimp only; walk1))
  by_cases hlt : l < u
  · rw [if_pos (decide_eq_true (Int.ofNat_lt.mpr hlt))]
    obtain ⟨j, rfl⟩ : ∃ j, k = j + 1 := ⟨k - 1, by omega⟩
    iterate 9 (first | (k_unfold; (try dsimp only)) | walk1 | (dsimp only; walk1))
    rw [show ((l : Int) + (u : Int)).fdiv 2 = (((l + u) / 2 : Nat) : Int) by rw [Int.fdiv_eq_ediv_of_nonneg _ (by decide)]; omega]
    have hm1 : l ≤ (l + u) / 2 := by omega
    have hm2 : (l + u) / 2 < u := by omega
    unfold bisF at hbis
    rw [if_pos hlt] at hbis
    generalize (l + u) / 2 = mid at *
    obtain ⟨ta, ua, hva, hina, hua⟩ := hT.get mid (W.getD mid []) (by rw [List.getD_eq_getElem?_getD, List.getElem?_eq_getElem (by omega)]; rfl)
    iterate 7 (first | (k_unfold; (try dsimp only)) | walk1 | (dsimp only; walk1))
    rename Fr _ _ _ _ => F
    refine item_listL (l := vs) (hl.at fun o e => F.keep _ _ e) (by omega) (by omega) (by rw [Int.toNat_natCast]; exact hva) ?_
    (first | (k_unfold; (try dsimp only)) | walk1 | (dsimp only; walk1))
    rename Fr _ _ _ _ => F
    refine lt_tuples (F.keep _ _ hina) (F.keep _ _ hb) hua hus ?_ ?_
    · show un + 3 < _; omega
    skip
    (first | (k_unfold; (try dsimp only)) | walk1 | (dsimp only; walk1))
    by_cases hl2 : ltL (W.getD mid []) x = true
    · rw [if_pos hl2] at hbis ⊢
      iterate 10 (first | (k_unfold; (try dsimp only)) | walk1 | (dsimp only; walk1))
      rename Fr _ _ _ _ => F
      rename News _ _ _ _ => N
      exact ⟨rfl, _, _, _, _, rfl, F, N, j, Nat.lt_succ_self _, mid + 1, u, _, _, rfl, rfl, rfl, rfl, rfl, hu1, by omega, by omega, by omega, hbis⟩
    · rw [if_neg hl2] at hbis ⊢
      iterate 7 (first | (k_unfold; (try dsimp only)) | walk1 | (dsimp only; walk1))
      rename Fr _ _ _ _ => F
      rename News _ _ _ _ => N
      exact ⟨rfl, _, _, _, _, rfl, F, N, j, Nat.lt_succ_self _, l, mid, _, _, rfl, rfl, rfl, rfl, rfl, by omega, by omega, by omega, by omega, hbis⟩
  · rw [if_neg (by simpa using hlt)]
    have hb2 : bisF W x k l u = l := by
      cases k with
      | zero => rfl
      | succ k => unfold bisF; rw [if_neg hlt]
    rw [hb2] at hbis
    subst hbis
    (iterate 4 (first | (k_unfold; (try dsimp only)) | walk1 | (dsimp only; walk1)); (try dsimp only))
    exact hret _ _ _ (Fr.keep (by assumption)) ⟨_, rfl⟩
end Mine
end
section
open PySem PySem.W PySem.Spec PySem.Calls PyProof.Rows
namespace Mine
set_option maxRecDepth 100000
set_option maxHeartbeats 1000000
section
variable {w : World} {A : Around} {E : Value → Shared → Prop} {s : Shared} {h₀ : Heap} {L t sl : Addr} {m : Str → Option Value} {news : List (Addr × Obj)} {xs : List Value} {a : Nat} {u : Tok} {ops : List Value} {value slice : PySem.Expr} {Q : Value → Shared → Prop}
theorem adjust_upto (a n : Nat) (ha : a ≤ n) : Builtin.Slice.sliceAdjust none (some (a : Int)) 1 (n : Int) = (0, (a : Int)) := by
  unfold Builtin.Slice.sliceAdjust
  have h1 : ¬ ((1 : Int) < 0) := by omega
  have h2 : ¬ ((a : Int) < 0) := by omega
  simp only [h1, h2, if_false]
  congr 1
  omega
theorem places_upto (a : Nat) : Builtin.Slice.slicePlaces 0 (a : Int) 1 = a := by
  unfold Builtin.Slice.slicePlaces
  have h1 : (1 : Int) > 0 := by omega
  simp only [h1, if_true, Int.ediv_one]
  split <;> omega
theorem applied_upto {n : Nat} {R : Int × Int × Nat → Shared → Prop} (hs : s.heap.IsSliceOf sl .none (.int a u) .none) (ha : a ≤ n) (h : R (0, 1, a) s) :
    wpAny (model prog w) A (Builtin.Slice.sliceApplied (.ref sl) (pure (n : Int))) R E s := by
  obtain ⟨os, hos, hcs, hds⟩ := id hs
  unfold Builtin.Slice.sliceApplied Builtin.Slice.sliceFields
  refine wpAny_bind (wpAny_bind (wpAny_field hos hds (x := .none) rfl (wpAny_bind (wpAny_field hos hds (x := .int a u) rfl (wpAny_bind (wpAny_field hos hds (x := .none) rfl (wpAny_pure ?_)))))))
  refine wpAny_bind (slicePart_none ?_)
  show wpAny _ _ (if ((1 : Int) == 0) = true then _ else _) _ _ s
  rw [if_neg (by decide)]
  refine wpAny_bind (slicePart_none (wpAny_bind (slicePart_int (wpAny_bind (wpAny_pure ?_)))))
  show wpAny _ _ (match Builtin.Slice.sliceAdjust none (some (a : Int)) 1 (n : Int) with | (lo, hi) => pure (lo, (1 : Int), Builtin.Slice.slicePlaces lo hi 1)) _ _ s
  rw [adjust_upto a n ha]
  show wpAny _ _ (pure ((0 : Int), (1 : Int), Builtin.Slice.slicePlaces 0 (a : Int) 1)) _ _ s
  rw [places_upto a]
  exact wpAny_pure h
theorem pick_upto (xs : List Value) : ∀ a, a ≤ xs.length → ((List.range a).filterMap fun (k : Nat) => xs.toArray[((0 : Int) + (k : Int) * 1).toNat]?) = xs.take a
  | 0, _ => rfl
  | a + 1, h => by
    have e : ((0 : Int) + (a : Int) * 1).toNat = a := by omega
    rw [List.range_succ, List.filterMap_append, pick_upto xs a (Nat.le_of_succ_le h), List.take_add_one]
    congr 1
    simp only [List.filterMap_cons, List.filterMap_nil]
    rw [e, List.getElem?_toArray, List.getElem?_eq_getElem h]
    rfl
theorem getItem_upto (ht : s.heap.get? t = some (tupO xs)) (hs : s.heap.IsSliceOf sl .none (.int a u) .none) (ha : a < xs.length) (hsz : xs.length ≤ 1000)
    (h : Q (.ref s.heap.objs.size) { s with heap := s.heap.push (tupO (xs.take a)) }) : wpAny (model prog w) A (getItem (.ref t) (.ref sl)) Q E s := by
  have htt : IsTup s.heap t xs.toArray := ⟨_, ht, rfl, _, rfl⟩
  have hdrop : sizeOk (.seq (xs.take a).toArray) := by
    show (xs.take a).toArray.size ≤ sizeLine
    rw [List.size_toArray, List.length_take]
    exact Nat.le_trans (show _ ≤ 1000 by omega) (by decide)
  obtain ⟨os, hos, hcs, hds⟩ := id hs
  have hTs : s.TypeIs (.ref sl) "slice" := ⟨os, hos, hcs⟩
  unfold getItem
  try with_reducible refine wpAny_holding ?_
  first | refine wpAny_bind (wpAny_pure ?_) | skip
  refine wpAny_bind (wpAny_sequenceKey htt.typeIs (by decide) ?_)
  refine wpAny_bind (wpAny_callSpecial?_slot (name := Str.ofString "__getitem__") htt.typeIs slot_tuple_getitem
    (wpAny_call_entry slot_tuple_getitem htt.typeIs entry_tuple_getitem ?_ (args_tuple_getitem _ _)))
  show wpAny _ _ (Builtin.Tuple.tupleItemsOf (.ref t) >>= _) _ _ s
  refine wpAny_bind (wpAny_tupleItemsOf ht rfl ?_)
  refine wpAny_bind (wpAny_typeOf hTs ?_)
  rw [if_pos (by decide)]
  refine wpAny_bind (applied_upto hs (n := xs.toArray.size) (by rw [List.size_toArray]; omega) ?_)
  have hno : ¬ (((0 : Int) == 0 && (1 : Int) == 1 && a == xs.toArray.size) = true) := by
    have : (a == xs.toArray.size) = false := by rw [beq_eq_false_iff_ne, List.size_toArray]; omega
    rw [this]; simp
  show wpAny _ _ (if ((0 : Int) == 0 && (1 : Int) == 1 && a == xs.toArray.size) = true then _ else _) _ _ s
  rw [if_neg hno, pick_upto xs a (by omega)]
  first
    | exact wpAny_bind (m := Builtin.Tuple.tupleExact _) (wpAny_newObj_type (wpAny_pure ⟨_, rfl, wpAny_pure h⟩) hdrop)
    | exact wpAny_bind (m := Builtin.Tuple.tupleExact _) (wpAny_newObj_type (wpAny_bind (wpAny_pure (wpAny_pure ⟨_, rfl, wpAny_pure h⟩))) hdrop)
    | exact wpAny_bind (wpAny_bind (m := Builtin.Tuple.tupleExact _) (wpAny_newObj_type (wpAny_pure (wpAny_pure ⟨_, rfl, wpAny_pure h⟩)) hdrop))
    | exact wpAny_bind (wpAny_bind (m := Builtin.Tuple.tupleExact _) (wpAny_newObj_type (wpAny_pure ⟨_, rfl, wpAny_pure h⟩) hdrop))
theorem slice_upto (F : Fr h₀ L s.heap m) (N : News h₀ L s.heap news) (ht : s.heap.get? t = some (tupO xs)) (ha : a < xs.length) (hsz : xs.length ≤ 1000)
    (h : ∀ D h', Fr h₀ L h' m → News h₀ L h' ((D, tupO (xs.take a)) :: news) → (∀ p ∈ news, p.1 < D) → Q (.ref D) { s with heap := h' })
    (hs : subscripted slice false (.ref t) (.ref s.heap.objs.size) = operate ops (getItem (.ref t) (.ref s.heap.objs.size))) :
    wpAny (model prog w) A (subscriptTail value slice (.ref t) (.ref s.heap.objs.size)) Q E { s with heap := s.heap.push { cls := .type "slice", data := .fields #[.none, .int a u, .none] } } := by
  have F1 := F.push { cls := .type "slice", data := .fields #[.none, .int a u, .none] }
  have N1 : News h₀ L (s.heap.push { cls := .type "slice", data := .fields #[.none, .int a u, .none] }) news := N.grown fun _ _ e => Heap.get?_push_of_some _ e
  have ht' : (s.heap.push { cls := .type "slice", data := .fields #[.none, .int a u, .none] }).get? t = some (tupO xs) := Heap.get?_push_of_some _ ht
  refine tail_any (T := "tuple") ⟨_, ht', rfl⟩ slot_tuple_getitem.lookup (getItem_upto (s := { s with heap := s.heap.push _ }) ht' (Heap.IsSliceOf.new ..) ha hsz ?_) hs
  exact h _ _ (F1.push _) (N1.push F1 _) fun p hp => Heap.lt_size (N1 p hp).1
theorem slice_from (F : Fr h₀ L s.heap m) (N : News h₀ L s.heap news) (ht : s.heap.get? t = some (tupO xs)) (h1 : 1 ≤ a) (ha : a ≤ xs.length) (hsz : xs.length ≤ 1000)
    (h : ∀ D h', Fr h₀ L h' m → News h₀ L h' ((D, tupO (xs.drop a)) :: news) → (∀ p ∈ news, p.1 < D) → Q (.ref D) { s with heap := h' })
    (hs : subscripted slice false (.ref t) (.ref s.heap.objs.size) = operate ops (getItem (.ref t) (.ref s.heap.objs.size))) :
    wpAny (model prog w) A (subscriptTail value slice (.ref t) (.ref s.heap.objs.size)) Q E { s with heap := s.heap.push { cls := .type "slice", data := .fields #[.int a u, .none, .none] } } := by
  have F1 := F.push { cls := .type "slice", data := .fields #[.int a u, .none, .none] }
  have N1 : News h₀ L (s.heap.push { cls := .type "slice", data := .fields #[.int a u, .none, .none] }) news := N.grown fun _ _ e => Heap.get?_push_of_some _ e
  have ht' : (s.heap.push { cls := .type "slice", data := .fields #[.int a u, .none, .none] }).get? t = some (tupO xs) := Heap.get?_push_of_some _ ht
  have htt : IsTup (s.heap.push { cls := .type "slice", data := .fields #[.int a u, .none, .none] }) t xs.toArray := ⟨_, ht', rfl, _, rfl⟩
  refine tail_any (T := "tuple") ⟨_, ht', rfl⟩ slot_tuple_getitem.lookup (getItem_tuple_from (s := { s with heap := s.heap.push _ }) htt (Heap.IsSliceOf.new ..) h1 (by rw [List.size_toArray]; exact ha) ?_ (by rw [List.size_toArray]; exact Nat.le_trans hsz (by decide))) hs
  exact h _ _ (F1.push _) (N1.push F1 _) fun p hp => Heap.lt_size (N1 p hp).1
end
end Mine
end
section
open PySem PySem.W PySem.Spec PySem.Calls PyProof.Rows
namespace Mine
open LSm
set_option maxRecDepth 100000
set_option maxHeartbeats 8000000
theorem fill16 : (PySem.Challenge.rw_sn0080_01.row.prog = PySem.Challenge.rw_sn0080_01.row.prog) ∧ (Mine.K0 = Mine.K0) := by k_fill; exact ⟨rfl, rfl⟩
def rot (st : Nat) (x : List Int) : List Int := x.drop st ++ x.take st
def nxt (W : List (List Int)) (st p : Nat) : Nat := bis W (rot st (W.getD p []))
def ringF (W : List (List Int)) (st : Nat) : Nat → List Bool → Nat → Nat → List Bool × Nat
  | 0, met, _, size => (met, size)
  | f + 1, met, place, size => if met.getD place false then (met, size) else ringF W st f (met.set place true) (nxt W st place) (size + 1)
def ringsStep (W : List (List Int)) (st : Nat) (q : List Bool × List Int) (start : Nat) : List Bool × List Int :=
  let r := ringF W st (W.length + 1) q.1 start 0
  (r.1, if 0 < r.2 then q.2 ++ [(r.2 : Int)] else q.2)
def ringsAt (W : List (List Int)) (st k : Nat) : List Bool × List Int := (List.range k).foldl (ringsStep W st) (List.replicate W.length false, [])
def ringsOf (W : List (List Int)) (st : Nat) : List Int := (ringsAt W st W.length).2
theorem ringF_len (W : List (List Int)) (st : Nat) : ∀ f B p z, (ringF W st f B p z).1.length = B.length ∧ z ≤ (ringF W st f B p z).2 ∧ (ringF W st f B p z).2 ≤ z + f
  | 0, B, p, z => ⟨rfl, Nat.le_refl _, Nat.le_refl _⟩
  | f + 1, B, p, z => by
    unfold ringF
    split
    · exact ⟨rfl, Nat.le_refl _, Nat.le_add_right _ _⟩
    · obtain ⟨z1, z2, z3⟩ := ringF_len W st f (B.set p true) (nxt W st p) (z + 1)
      rw [List.length_set] at z1
      exact ⟨z1, by omega, by omega⟩
theorem ringsAt_succ (W : List (List Int)) (st k : Nat) : ringsAt W st (k + 1) = ringsStep W st (ringsAt W st k) k := by
  unfold ringsAt; rw [List.range_succ, List.foldl_append]; rfl
theorem ringsAt_len (W : List (List Int)) (st : Nat) : ∀ k, (ringsAt W st k).1.length = W.length ∧ (ringsAt W st k).2.length ≤ k
  | 0 => by simp [ringsAt]
  | k + 1 => by
    obtain ⟨z1, z2⟩ := ringsAt_len W st k
    rw [ringsAt_succ]
    unfold ringsStep
    dsimp only
    refine ⟨(ringF_len ..).1.trans z1, ?_⟩
    split
    · rw [List.length_append]; show _ + 1 ≤ _; omega
    · omega
theorem count_set : ∀ (B : List Bool) (p : Nat), p < B.length → B.getD p false = false → (B.set p true).count false + 1 = B.count false
  | b :: r, 0, _, h => by
    have : b = false := h
    subst this
    simp
  | b :: r, p + 1, hp, h => by
    have z := count_set r p (Nat.lt_of_succ_lt_succ hp) h
    rw [List.set_cons_succ, List.count_cons, List.count_cons]
    omega
theorem boolsAre_rep (k : Nat) : BoolsAre (List.replicate k (.bool false)) (List.replicate k false) := by
  induction k with
  | zero => exact .nil
  | succ k ih => exact .cons _ ih
theorem ringF_met {W : List (List Int)} {st f p z : Nat} {B : List Bool} (h : B.getD p false = true) : ringF W st (f + 1) B p z = (B, z) := by unfold ringF; rw [if_pos h]
theorem ringF_un {W : List (List Int)} {st f p z : Nat} {B : List Bool} (h : B.getD p false = false) : ringF W st (f + 1) B p z = ringF W st f (B.set p true) (nxt W st p) (z + 1) := by
  conv => lhs; unfold ringF
  rw [if_neg (by rw [h]; decide)]
theorem ringsStep_eq {W : List (List Int)} {st k z : Nat} {B : List Bool} (h : ringF W st (W.length + 1) (ringsAt W st k).1 k 0 = (B, z)) :
    (ringsAt W st (k + 1)).1 = B ∧ (ringsAt W st (k + 1)).2 = if 0 < z then (ringsAt W st k).2 ++ [(z : Int)] else (ringsAt W st k).2 := by
  rw [ringsAt_succ]; unfold ringsStep; rw [h]; exact ⟨rfl, rfl⟩
theorem ints_drop : ∀ {vs : List Value} {ns : List Int} (k : Nat), IntsAre vs ns → IntsAre (vs.drop k) (ns.drop k)
  | _, _, 0, h => h
  | _, _, k + 1, .nil => .nil
  | _, _, k + 1, .cons _ _ r => ints_drop k r
theorem ints_take : ∀ {vs : List Value} {ns : List Int} (k : Nat), IntsAre vs ns → IntsAre (vs.take k) (ns.take k)
  | _, _, 0, _ => .nil
  | _, _, k + 1, .nil => .nil
  | _, _, k + 1, .cons n t r => .cons n t (ints_take k r)
theorem rings_fn (w : World) (a : Addr) (vs : List Value) (W : List (List Int)) (st n : Nat) (t : Tok) (h2 : W.length ≤ 1000) (h1 : 1 ≤ st) (hst : st < n) (hn : n ≤ 8) (hW : ∀ x ∈ W, x.length = n) (hnx : ∀ p < W.length, nxt W st p < W.length) :
    Fn w 193 [.ref a, .int st t] 10 200 (fun h => h.IsList a vs.toArray ∧ Tups (inH h) vs W) (fun h v h' => FreshInts h v h' (ringsOf W st)) := by
  intro dp un fr gd s R g hd hu hpre hret
  obtain ⟨hl, hT⟩ := hpre
  (refine' enterH (binds := [(Str.ofString "words", .ref a), (Str.ofString "step", .int st t)]) [] ?k0 ?ki ?k6 ?kd ?k7 ?k8 ?k9 ?kB ?_ ?c2 ?c3 ?c4 ?c5; (case k0 => assumption); (case ki => exact List.forall_mem_nil _); (case k6 => exact fn_at (by assumption) (by k_is)); (case kd => with_unfolding_all exact rfl); (case k7 => exact codeRec_of (G.k (by assumption)) (by k_is)); (case k8 => exact Nat.lt_of_le_of_lt (Nat.le_add_right _ _) hd); (case k9 => first | exact BindsTo.of_eq rfl | exact binds_K (G.k (by assumption)) rfl (by k_is) rfl rfl rfl); (case c5 => decide); (case kB => exact locs rfl); (case c2 => exact rfl); (case c3 => exact rfl); (case c4 => exact rfl); k_whole; intro L' h' vw lo mean mg mb F' N' l0 X' T'; clear l0; (try dsimp only [List.map_nil, hideAll] at *))
  iterate 14 (first | (k_unfold; (try dsimp only)) | walk1 | (dsimp only; walk1))
  rename Fr _ _ _ _ => F
  refine len_list (hl.at fun o e => F.keep _ _ e) (by rw [List.size_toArray, hT.length]; omega) ?_
  rw [List.size_toArray, hT.length]
  skip
  rename Fr _ _ _ _ => F
  rename News _ _ _ _ => N
  refine mulL F N (.head _) ⟨by omega, by omega⟩ fun lm h3 F3 N3 l3 => ?_
  rw [Int.toNat_natCast] at N3
  clear l3
  iterate 10 (first | (k_unfold; (try dsimp only)) | walk1 | (dsimp only; walk1))
  refine forI ?_ (by intro _; rfl)
  iterate 10 (first | (k_unfold; (try dsimp only)) | walk1 | (dsimp only; walk1))
  rename Fr _ _ _ _ => F
  refine len_list (hl.at fun o e => F.keep _ _ e) (by rw [List.size_toArray, hT.length]; omega) ?_
  rw [List.size_toArray, hT.length]
  iterate 2 (first | (k_unfold; (try dsimp only)) | walk1 | (dsimp only; walk1))
  rename IsRange _ _ _ _ _ _ _ _ => hr
  rename News _ _ _ _ => N2
  rename Fr _ _ _ _ => F2
  refine iterRange (n := W.length) F2 N2 hr (small_one (by omega) (by omega) (by omega) (by omega)) (by have z := rangeSize_nat 0 (W.length : Int); simpa using z) ?_
  intro I o h₁ ho hI F N
  clear F2 N2 hr
  obtain ⟨lr, m', ts, N, hlt, hrI, hmI, F, q1, q2, q3, q4⟩ : ∃ lr m' ts, News (hideAll s.heap (List.map (fun x : Addr × Obj => x.fst) [])) L' h₁ [(I, o), (lr, PySem.W.listOf ([] : List Value).toArray 0), (lm, PySem.W.listOf (List.replicate W.length (.bool false)).toArray 0)] ∧ (@LT.lt Nat _ lm lr) ∧ (@Ne Nat lr I) ∧ (@Ne Nat lm I) ∧
      Fr (hideAll s.heap (List.map (fun x : Addr × Obj => x.fst) [])) L' h₁ m' ∧ m' (Str.ofString "words") = some (.ref a) ∧ m' (Str.ofString "step") = some (.int (st : Nat) ts) ∧ m' (Str.ofString "met") = some (.ref lm) ∧ m' (Str.ofString "rings") = some (.ref lr) := by
    refine ⟨_, _, _, nwC N (.head _) (nwC N (.tail _ (.head _)) (nwC N (.tail _ (.tail _ (.head _))) nwN)), ?_, Nat.ne_of_lt (hI _ (.head _)), Nat.ne_of_lt (hI _ (.tail _ (.head _))), F, rfl, rfl, rfl, rfl⟩
    rename _ ∧ _ => hh
    exact hh.1
  clear hI
  refine loopI (Iter.range rfl 0 W.length) (fun k m nx => ∃ (lr lm : Addr) (rv : List Value) (re : Nat) (mv : List Value) (me : Nat) (ts : Tok), m (Str.ofString "words") = some (.ref a) ∧ m (Str.ofString "step") = some (.int (st : Nat) ts) ∧ m (Str.ofString "met") = some (.ref lm) ∧ m (Str.ofString "rings") = some (.ref lr) ∧
    nx = [(lr, PySem.W.listOf rv.toArray re), (lm, PySem.W.listOf mv.toArray me)] ∧ (@LT.lt Nat _ lm lr) ∧ IntsAre rv (ringsAt W st k).2 ∧ BoolsAre mv (ringsAt W st k).1) F ho N ?_ ⟨lr, lm, [], 0, _, 0, ts, q1, q2, q3, q4, rfl, hlt, .nil, boolsAre_rep _⟩ (by intros; trivial) ?_ ?_
  · intro p hp
    simp only [List.mem_cons, List.mem_nil_iff, or_false] at hp
    rcases hp with rfl | rfl
    · exact hrI
    · exact hmI
  · clear N F hlt hrI hmI q1 q2 q3 q4
    rintro k v m₁ nx h tk o hk hv hio ⟨lr, lm, rv, re, mv, me, ts, q1, q2, q3, q4, rfl, hlt, hR, hM⟩ hoff F N
    obtain ⟨t₁, rfl⟩ := hv
    rw [Int.zero_add]
    have F' := frKnow F [(Str.ofString "words", _), (Str.ofString "step", _), (Str.ofString "met", _), (Str.ofString "rings", _)] ⟨q1, q2, q3, q4, trivial⟩
    clear F
    iterate 12 (first | (k_unfold; (try dsimp only)) | walk1 | (dsimp only; walk1))
    rename Fr _ _ _ _ => F
    rename News _ _ _ _ => N
    obtain ⟨z1, z2⟩ := ringsAt_len W st k
    have hrI : lr ≠ I := hoff _ (.head _)
    have hmI : lm ≠ I := hoff _ (.tail _ (.head _))
    clear hoff
    refine whileI (n := W.length + 1) (fun f m nx => ∃ (mv : List Value) (B : List Bool) (p z : Nat) (ts tp tz : Tok), m (Str.ofString "words") = some (.ref a) ∧ m (Str.ofString "step") = some (.int (st : Nat) ts) ∧ m (Str.ofString "met") = some (.ref lm) ∧ m (Str.ofString "rings") = some (.ref lr) ∧
      m (Str.ofString "place") = some (.int (p : Nat) tp) ∧ m (Str.ofString "size") = some (.int (z : Nat) tz) ∧ nx = [(I, o), (lr, PySem.W.listOf rv.toArray re), (lm, PySem.W.listOf mv.toArray me)] ∧ BoolsAre mv B ∧ B.length = W.length ∧ p < W.length ∧ B.count false < f ∧ f + z = W.length + 1 ∧
      ringF W st f B p z = ringF W st (W.length + 1) (ringsAt W st k).1 k 0) F N ⟨mv, _, k, 0, _, _, _, rfl, rfl, rfl, rfl, rfl, rfl, rfl, hM, z1, hk, Nat.lt_succ_of_le (z1 ▸ List.count_le_length), rfl, rfl⟩ ?_
    clear F N F' hM
    rintro f m₁ nx h tk ⟨mv, B, p, z, ts, tp, tz, q1, q2, q3, q4, q5, q6, rfl, hM, hB, hp, hf, hfz, hring⟩ F N
    have F' := frKnow F [(Str.ofString "words", _), (Str.ofString "step", _), (Str.ofString "met", _), (Str.ofString "rings", _), (Str.ofString "place", _), (Str.ofString "size", _)] ⟨q1, q2, q3, q4, q5, q6, trivial⟩
    clear F q1 q2 q3 q4 q5 q6
    iterate 5 (first | (k_unfold; (try dsimp only)) | walk1 | (dsimp only; walk1))
    rename News _ _ _ _ => N
    refine kbo_sub N (.tail _ (.tail _ (.head _))) hM (by omega) (by omega) (by omega) ?_
    rw [Int.toNat_natCast]
    (first | (k_unfold; (try dsimp only)) | walk1 | (dsimp only; walk1))
    by_cases hb : B.getD p false = true
    · rw [hb, if_neg (by decide)]
      dsimp only
      obtain ⟨f, rfl⟩ : ∃ j, f = j + 1 := ⟨f - 1, by omega⟩
      rw [ringF_met hb] at hring
      obtain ⟨hst1, hst2⟩ := ringsStep_eq hring.symm
      iterate 6 (first | (k_unfold; (try dsimp only)) | walk1 | (dsimp only; walk1))
      (first | (k_unfold; (try dsimp only)) | walk1 | (dsimp only; walk1))
      by_cases hz : 0 < z
      · rw [if_pos hz] at hst2
        rw [if_pos (decide_eq_true (show (0 : Int) < (z : Int) by omega))]
        iterate 10 (first | (k_unfold; (try dsimp only)) | walk1 | (dsimp only; walk1))
        rename Fr _ _ _ _ => F
        rename News _ _ _ _ => N
        refine appendL F (newsSub N (b := [(lr, PySem.W.listOf rv.toArray re), (I, o), (lm, PySem.W.listOf mv.toArray me)]) ?_) ?_ (by rw [hR.length]; omega) fun h9 F9 N9 => ?_
        · intro q hq
          simp only [List.mem_cons, List.mem_nil_iff, or_false] at hq ⊢
          rcases hq with hq | hq | hq <;> simp [hq]
        · intro q hq
          simp only [List.mem_cons, List.mem_nil_iff, or_false] at hq
          rcases hq with rfl | rfl
          · exact hrI.symm
          · exact Nat.ne_of_lt hlt
        clear F N
        iterate 3 (first | (k_unfold; (try dsimp only)) | walk1 | (dsimp only; walk1))
        dsimp only [UnrPost]
        rename Fr _ _ _ _ => F
        refine UnrEnd.intro F (nwC N9 (.tail _ (.head _)) (nwC N9 (.head _) (nwC N9 (.tail _ (.tail _ (.head _))) nwN))) _ (fun q hq => hq) ?_ ⟨lr, lm, _, _, mv, me, ts, rfl, rfl, rfl, rfl, rfl, hlt, ?_, ?_⟩
        · intro q hq
          simp only [List.mem_cons, List.mem_nil_iff, or_false] at hq
          rcases hq with rfl | rfl
          · exact hrI
          · exact hmI
        · rw [hst2]; exact hR.append (.cons _ _ .nil)
        · rw [hst1]; exact hM
      · rw [if_neg hz] at hst2
        rw [if_neg (by simpa using hz)]
        iterate 3 (first | (k_unfold; (try dsimp only)) | walk1 | (dsimp only; walk1))
        dsimp only [UnrPost]
        rename Fr _ _ _ _ => F
        rename News _ _ _ _ => N
        refine UnrEnd.intro F N _ (fun q hq => hq) ?_ ⟨lr, lm, _, _, mv, me, ts, rfl, rfl, rfl, rfl, rfl, hlt, ?_, ?_⟩
        · intro q hq
          simp only [List.mem_cons, List.mem_nil_iff, or_false] at hq
          rcases hq with rfl | rfl
          · exact hrI
          · exact hmI
        · rw [hst2]; exact hR
        · rw [hst1]; exact hM
    · have hb' : B.getD p false = false := by simpa using hb
      rw [hb', if_pos (by decide)]
      obtain ⟨f, rfl⟩ : ∃ j, f = j + 1 := ⟨f - 1, by omega⟩
      rw [ringF_un hb'] at hring
      have hcs := count_set B p (hB ▸ hp) hb'
      iterate 5 (first | (k_unfold; (try dsimp only)) | walk1 | (dsimp only; walk1))
      rename Fr _ _ _ _ => F
      rename News _ _ _ _ => N
      refine setL F (newsSub N (b := [(lm, PySem.W.listOf mv.toArray me), (I, o), (lr, PySem.W.listOf rv.toArray re)]) ?_) ?_ (by omega) (by rw [hM.length, hB]; omega) (by omega) fun h8 F8 N8 => ?_
      · intro q hq
        simp only [List.mem_cons, List.mem_nil_iff, or_false] at hq ⊢
        rcases hq with hq | hq | hq <;> simp [hq]
      · intro q hq
        simp only [List.mem_cons, List.mem_nil_iff, or_false] at hq
        rcases hq with rfl | rfl
        · exact hmI.symm
        · exact (Nat.ne_of_lt hlt).symm
      rw [Int.toNat_natCast] at N8
      have hM' := kbo_setB (b := true) hM p
      clear F N hM hb hb'
      have hWp : W[p]? = some (W.getD p []) := by rw [List.getD_eq_getElem?_getD, List.getElem?_eq_getElem hp]; rfl
      obtain ⟨ta, ua, hva, hina, hua⟩ := hT.get p (W.getD p []) hWp
      have hlen := hW _ (List.mem_of_getElem? hWp)
      iterate 19 (first | (k_unfold; (try dsimp only)) | walk1 | (dsimp only; walk1))
      rename Fr _ _ _ _ => F
      refine item_listL (l := vs) (hl.at fun o e => F.keep _ _ e) (by omega) (by omega) (by rw [Int.toNat_natCast]; exact hva) ?_
      iterate 5 (first | (k_unfold; (try dsimp only)) | walk1 | (dsimp only; walk1))
      rename Fr _ _ _ _ => F
      rename News _ _ _ _ => N
      refine slice_from (xs := ua) (a := st) F N (F.keep _ _ hina) h1 (by rw [hua.length]; omega) (by rw [hua.length]; omega) (fun T1 h9 F9 N9 l9 => ?_) (by with_unfolding_all rfl)
      clear F N
      iterate 4 (first | (k_unfold; (try dsimp only)) | walk1 | (dsimp only; walk1))
      rename Fr _ _ _ _ => F
      refine item_listL (l := vs) (hl.at fun o e => F.keep _ _ e) (by omega) (by omega) (by rw [Int.toNat_natCast]; exact hva) ?_
      iterate 5 (first | (k_unfold; (try dsimp only)) | walk1 | (dsimp only; walk1))
      rename Fr _ _ _ _ => F
      rename News _ _ _ _ => N
      refine slice_upto (xs := ua) (a := st) F N (F.keep _ _ hina) (by rw [hua.length]; omega) (by rw [hua.length]; omega) (fun T2 h10 F10 N10 l10 => ?_) (by with_unfolding_all rfl)
      clear F N
      skip
      rename Fr _ _ _ _ => F
      rename News _ _ _ _ => N
      have hul := hua.length
      refine add_tuples (vs := ua.drop st) (ws := ua.take st) F N ⟨_, (N (T1, _) (.tail _ (.head _))).1, rfl, _, rfl⟩ ⟨_, (N (T2, _) (.head _)).1, rfl, _, rfl⟩ (fun e => ?_) (fun _ e => ?_) (fun _ _ h11 F11 N11 => ?_) ?_
      · have := congrArg List.length e
        rw [List.length_drop, List.length_nil] at this; omega
      · have := congrArg List.length e
        rw [List.length_take, List.length_nil] at this; omega
      · clear F N
        have hrot : IntsAre (ua.drop st ++ ua.take st) (rot st (W.getD p [])) := (ints_drop st hua).append (ints_take st hua)
        iterate 2 (first | (k_unfold; (try dsimp only)) | walk1 | (dsimp only; walk1))
        rename Fr _ _ _ _ => F
        rename News _ _ _ _ => N
        refine (bis_fn w a _ vs _ W (rot st (W.getD p [])) h2).use g F N rfl ?_ ?_ ⟨hl.at fun o e => F.keep _ _ e, hT.mono fun b us e => F.keep _ _ e, (N _ (.head _)).1, hrot⟩ ?_
        · show dp + 1 + _ < _; first | exact ltD hd (by decide) | omega
        · show un + 3 + _ < _; first | exact ltU hu (by decide) | omega
        rintro v h12 tk12 k12 F12 N12 ⟨t12, rfl⟩
        clear F N
        iterate 3 (first | (k_unfold; (try dsimp only)) | walk1 | (dsimp only; walk1))
        rename Fr _ _ _ _ => F
        rename News _ _ _ _ => N
        refine ⟨rfl, _, _, _, _, rfl, F, nwC N (.tail _ (.tail _ (.tail _ (.tail _ (.head _))))) (nwC N (.tail _ (.tail _ (.tail _ (.tail _ (.tail _ (.head _)))))) (nwC N (.tail _ (.tail _ (.tail _ (.head _)))) nwN)), f, Nat.lt_succ_self _, mv.set p (.bool true), B.set p true, nxt W st p, z + 1, ts, _, _, rfl, rfl, rfl, rfl, rfl, rfl, rfl, hM', ?_, hnx p hp, by omega, by omega, hring⟩
        rw [List.length_set]; exact hB
      · rw [List.length_drop, List.length_take]; exact Nat.le_trans (show _ ≤ 100 by omega) (by decide)
  · rintro m₁ nx h tk ⟨lr, lm, rv, re, mv, me, ts, q1, q2, q3, q4, rfl, hlt, hR, hM⟩ F N
    have F' := frKnow F [(Str.ofString "rings", _)] ⟨q4, trivial⟩
    clear F
    (iterate 3 (first | (k_unfold; (try dsimp only)) | walk1 | (dsimp only; walk1)); (try dsimp only))
    rename News _ _ _ _ => N
    exact hret _ _ _ (Fr.keep (by assumption)) ⟨lr, rv, re, rfl, (N _ (.head _)).2.2, (N _ (.head _)).1, hR⟩
end Mine
end
section
open PySem PySem.W PySem.Spec PySem.Calls PyProof.Rows
namespace Mine
set_option maxRecDepth 100000
set_option maxHeartbeats 8000000
theorem fill17 : (PySem.Challenge.rw_sn0080_01.row.prog = PySem.Challenge.rw_sn0080_01.row.prog) ∧ (Mine.K0 = Mine.K0) := by k_fill; exact ⟨rfl, rfl⟩
theorem rangeKs_get (a : Int) (n k : Nat) (h : k < n) : (rangeKs a n)[k]? = some (a + (k : Int)) := by simp [rangeKs, h]
theorem product_range (w : World) (r : Addr) (a b y : Int) (t t1 t2 t3 : Tok) (h0 : 5 ≤ y) (h1 : y ≤ 8) (ha : 1 ≤ a) (hb : b ≤ 9) (hab : a ≤ b) :
    Fn w 186 [.ref r, .int y t] 2 20 (fun h => IsRange h r a b 1 t1 t2 t3) (fun h v h' => ∃ t', v = .int (prodZ y (rangeKs a (b - a).toNat)) t') := by
  intro dp un fr gd s R g hd hu hpre hret
  (refine' enterH (binds := [(Str.ofString "sizes", .ref r), (Str.ofString "width", .int y t)]) [] ?k0 ?ki ?k6 ?kd ?k7 ?k8 ?k9 ?kB ?_ ?c2 ?c3 ?c4 ?c5; (case k0 => assumption); (case ki => exact List.forall_mem_nil _); (case k6 => exact fn_at (by assumption) (by k_is)); (case kd => with_unfolding_all exact rfl); (case k7 => exact codeRec_of (G.k (by assumption)) (by k_is)); (case k8 => exact Nat.lt_of_le_of_lt (Nat.le_add_right _ _) hd); (case k9 => first | exact BindsTo.of_eq rfl | exact binds_K (G.k (by assumption)) rfl (by k_is) rfl rfl rfl); (case c5 => decide); (case kB => exact locs rfl); (case c2 => exact rfl); (case c3 => exact rfl); (case c4 => exact rfl); k_whole; intro L' h' vw lo mean mg mb F' N' l0 X' T'; clear l0; (try dsimp only [List.map_nil, hideAll] at *))
  iterate 5 (first | (k_unfold; (try dsimp only)) | walk1 | (dsimp only; walk1))
  refine forI ?_ (by intro _; rfl)
  (first | (k_unfold; (try dsimp only)) | walk1 | (dsimp only; walk1))
  have hlen : (b - a).toNat ≤ 8 := by omega
  rename Fr _ _ _ _ => F
  rename News _ _ _ _ => N
  have hr : IsRange _ r a b 1 t1 t2 t3 := F.keep _ _ hpre
  refine iterRange (n := (b - a).toNat) F N hr (small_one (by omega) (by omega) (by omega) (by omega)) (rangeSize_nat a b) ?_
  intro I o h₁ ho hI F N
  refine loopI (Iter.range rfl a (b - a).toNat) (fun k m nx => ∃ t₁ t₂, m (Str.ofString "product") = some (.int (prodZ y ((rangeKs a (b - a).toNat).take k)) t₁) ∧ m (Str.ofString "width") = some (.int y t₂) ∧ nx = []) F ho N (by simp) ⟨_, _, rfl, rfl, rfl⟩ (by intros; trivial) ?_ ?_
  · rintro k v m₁ nx h tk o hk hv hio ⟨t₁, t₂, e1, e2, rfl⟩ hoff F N
    obtain ⟨t₃, rfl⟩ := hv
    have F' := frKnow F [(Str.ofString "product", _), (Str.ofString "width", _)] ⟨e1, e2, trivial⟩
    clear F
    refine wpAny_assign_Name ?_
    iterate 12 (first | (k_unfold; (try dsimp only)) | walk1 | (dsimp only; walk1))
    (first | (k_unfold; (try dsimp only)) | walk1 | (dsimp only; walk1))
    have hb1 : 0 ≤ y * (a + (k : Int)) := Int.mul_nonneg (by omega) (by omega)
    have hb2 : y * (a + (k : Int)) ≤ 64 := Int.le_trans (Int.mul_le_mul (by omega : y ≤ 8) (by omega : a + (k : Int) ≤ 8) (by omega) (by omega)) (by omega)
    refine pow_int_small hb1 (by omega) (by decide) ?_
    iterate 2 (first | (k_unfold; (try dsimp only)) | walk1 | (dsimp only; walk1))
    refine mul_int ?_ (mulOk_prod (fun n hn' => ?_) h0 h1 ?_ hb2)
    rotate_left
    · obtain ⟨x1, x2⟩ := mem_rangeKs (List.mem_of_mem_take hn')
      omega
    · rw [List.length_take]
      have : (rangeKs a (b - a).toNat).length = (b - a).toNat := rangeKs_length _ _
      omega
    iterate 2 (first | (k_unfold; (try dsimp only)) | walk1 | (dsimp only; walk1))
    dsimp only [UnrPost]
    refine UnrEnd.intro (by assumption) (by assumption) [] (by intro p hp; exact hp) (by intro p hp; cases hp) ?_
    rw [take_succ_of (rangeKs_get a _ k hk), prodZ_snoc]
    exact ⟨_, _, rfl, rfl, rfl⟩
  · rintro m₁ nx h tk ⟨t₁, t₂, e1, e2, rfl⟩ F N
    have F' := frKnow F [(Str.ofString "product", _)] ⟨e1, trivial⟩
    clear F
    (repeat' (first | (k_unfold; (try dsimp only)) | walk1 | (dsimp only; walk1)))
    rw [List.take_of_length_le (by rw [rangeKs_length]; exact Nat.le_refl _)]
    exact hret _ _ _ (Fr.keep (by assumption)) ⟨_, rfl⟩
end Mine
end
section
open PySem PySem.W PySem.Spec PySem.Calls PyProof.Rows
namespace Mine
set_option maxRecDepth 100000
set_option maxHeartbeats 8000000
def belowL (l : List Int) : List Int := l.flatMap fun m => rangeKs 1 m.toNat
def dueAt (rs : List Int) (st k : Nat) : Int := ((rs.countP fun r => (k : Int).fmod ((st : Int).fdiv r) == 0 : Nat) : Int)
def dueOf (rs : List Int) (st : Nat) : List Int := (List.range st).map (dueAt rs st)
structure Plain (c0 : Int) (cr : List Int) (n wd st : Nat) (kinds : List (Int × Int)) (A B q sh : Nat) : Prop where
  len : ∀ k ≤ n, (wordsOf kinds k).length ≤ 1000
  pos : 0 < (wordsOf kinds n).length
  maj : ∀ m ∈ majL (wordsOf kinds n), m ≤ 1000
  aa : prodZ wd (rangeKs (1 + c0) (n - c0.toNat)) = A
  bbb : prodZ wd (belowL cr) = B
  b1 : 1 ≤ B
  bb : Builtin.Int.intBits (B : Int) ≤ 1000
  ba : cnt (Builtin.Int.intBits (B : Int)) A ≤ 100
  qq : (A : Int).fdiv (B : Int) = q
  rr : (A : Int).fmod (B : Int) = 0
  qc : cnt wd q ≤ 100
  dq : digs wd (cnt wd q) q = countsOf (majL (wordsOf kinds n))
  st2 : 2 ≤ st
  stn : st ≤ n
  shh : (n : Int).fdiv (st : Int) = sh
  sh1 : 1 ≤ sh
  shn : sh < n
  nx : ∀ p < (wordsOf kinds n).length, nxt (wordsOf kinds n) sh p < (wordsOf kinds n).length
  rg : ∀ r ∈ ringsOf (wordsOf kinds n) sh, 1 ≤ r ∧ r ≤ (st : Int)
  rl : (ringsOf (wordsOf kinds n) sh).length ≤ 1000
  du : ∀ d ∈ dueOf (ringsOf (wordsOf kinds n) sh) st, 0 ≤ d ∧ d < 2 ^ wd
  m1 : 1 ≤ 2 ^ (wd * st) - 1
  mb : Builtin.Int.intBits ((2 ^ (wd * st) - 1 : Nat) : Int) ≤ 1000
  mc : cnt (Builtin.Int.intBits ((2 ^ (wd * st) - 1 : Nat) : Int)) q ≤ 100
  fin : (q : Int).fmod ((2 ^ (wd * st) - 1 : Nat) : Int) = hor wd (dueOf (ringsOf (wordsOf kinds n) sh) st)
end Mine
end
section
open PySem PySem.W PySem.Spec PySem.Calls PyProof.Rows
namespace Mine
set_option maxRecDepth 100000
set_option maxHeartbeats 8000000
def PlainW (n : Nat) (W : Nat → List (List Int)) : Bool := (List.range (n + 1)).all (fun k => decide ((W k).length ≤ 1000)) && decide (0 < (W n).length) && (majL (W n)).all fun m => decide (m ≤ 1000)
def PlainA (c0 : Int) (cr : List Int) (n wd : Nat) (cs : List Int) : Bool :=
  let A := (prodZ wd (rangeKs (1 + c0) (n - c0.toNat))).toNat
  let B := (prodZ wd (belowL cr)).toNat
  let q := ((A : Int).fdiv (B : Int)).toNat
  decide (prodZ wd (rangeKs (1 + c0) (n - c0.toNat)) = A) && decide (prodZ wd (belowL cr) = B) && decide (1 ≤ B) && decide (Builtin.Int.intBits (B : Int) ≤ 1000) && decide (cnt (Builtin.Int.intBits (B : Int)) A ≤ 100)
  && decide ((A : Int).fdiv (B : Int) = q) && decide ((A : Int).fmod (B : Int) = 0) && decide (cnt wd q ≤ 100) && decide (digs wd (cnt wd q) q = cs)
def PlainS (n st sh : Nat) (W : List (List Int)) : Bool := decide (2 ≤ st) && decide (st ≤ n) && decide ((n : Int).fdiv (st : Int) = sh) && decide (1 ≤ sh) && decide (sh < n) && (List.range W.length).all (fun p => decide (nxt W sh p < W.length))
   && (ringsOf W sh).all (fun r => decide (1 ≤ r) && decide (r ≤ (st : Int))) && decide ((ringsOf W sh).length ≤ 1000)
def PlainF (c0 : Int) (cr : List Int) (n wd st : Nat) (rs : List Int) : Bool :=
  let A := (prodZ wd (rangeKs (1 + c0) (n - c0.toNat))).toNat
  let B := (prodZ wd (belowL cr)).toNat
  let q := ((A : Int).fdiv (B : Int)).toNat
  (dueOf rs st).all (fun d => decide (0 ≤ d) && decide (d < 2 ^ wd)) && decide (1 ≤ 2 ^ (wd * st) - 1) && decide (Builtin.Int.intBits ((2 ^ (wd * st) - 1 : Nat) : Int) ≤ 1000) && decide (cnt (Builtin.Int.intBits ((2 ^ (wd * st) - 1 : Nat) : Int)) q ≤ 100)
  && decide ((q : Int).fmod ((2 ^ (wd * st) - 1 : Nat) : Int) = hor wd (dueOf rs st))
def kz (ms : List Int) : List (Int × Int) := List.zip [0, 1, 2, 3] ms
def PlainB (c0 : Int) (cr ms : List Int) (n : Nat) : Bool :=
  PlainW n (wordsOf (kz ms)) && ([5, 6, 7, 8] : List Nat).all (fun wd => PlainA c0 cr n wd (countsOf (majL (wordsOf (kz ms) n)))) &&
  (chOf n).all fun m => PlainS n m.toNat (n / m.toNat) (wordsOf (kz ms) n) && ([5, 6, 7, 8] : List Nat).all fun wd => PlainF c0 cr n wd m.toNat (ringsOf (wordsOf (kz ms) n) (n / m.toNat))

/-! the letters do not matter -/
section
variable {φ : Int → Int} (hφ : ∀ x y, x < y → φ x < φ y)
include hφ
theorem ph_lt (x y : Int) : φ x < φ y ↔ x < y := by
  refine ⟨fun h => ?_, hφ x y⟩
  rcases Int.lt_trichotomy x y with q | q | q
  · exact q
  · subst q; exact absurd h (Int.lt_irrefl _)
  · exact absurd (Int.lt_trans h (hφ _ _ q)) (Int.lt_irrefl _)
theorem ph_eq (x y : Int) : φ x = φ y ↔ x = y := by
  refine ⟨fun h => ?_, fun h => by rw [h]⟩
  rcases Int.lt_trichotomy x y with q | q | q
  · exact absurd (h ▸ hφ _ _ q) (Int.lt_irrefl _)
  · exact q
  · exact absurd (h ▸ hφ _ _ q) (Int.lt_irrefl _)
theorem count_ph (a : Int) : ∀ l : List Int, (l.map φ).count (φ a) = l.count a
  | [] => rfl
  | x :: l => by
    rw [List.map_cons, List.count_cons, List.count_cons, count_ph a l]
    congr 1
    have e : (φ x == φ a) = (x == a) := by
      rw [Bool.eq_iff_iff, beq_iff_eq, beq_iff_eq]; exact ph_eq hφ x a
    rw [e]
theorem wgrow_ph (ks : List (Int × Int)) (w : List Int) : wgrow (ks.map fun p => (φ p.1, p.2)) (w.map φ) = (wgrow ks w).map (List.map φ) := by
  unfold wgrow
  rw [List.filter_map, List.map_map, List.map_map]
  have e : (((fun p : Int × Int => decide (((w.map φ).count p.1 : Int) < p.2)) ∘ fun p : Int × Int => (φ p.1, p.2))) = fun p : Int × Int => decide ((w.count p.1 : Int) < p.2) := by
    funext p
    show decide ((((w.map φ).count (φ p.1) : Nat) : Int) < p.2) = _
    rw [count_ph hφ]
  rw [e]
  refine List.map_congr_left fun p _ => ?_
  show w.map φ ++ [φ p.1] = (w ++ [p.1]).map φ
  rw [List.map_append]; rfl
theorem wordsOf_ph (ks : List (Int × Int)) : ∀ k, wordsOf (ks.map fun p => (φ p.1, p.2)) k = (wordsOf ks k).map (List.map φ)
  | 0 => rfl
  | k + 1 => by
    rw [wordsOf, wordsOf, wordsOf_ph ks k]
    unfold wstep
    rw [List.flatMap_map, List.map_flatMap]
    congr 1
    funext w
    exact wgrow_ph hφ ks w
theorem getD_ph (w : List Int) {i : Nat} (h : i < w.length) : (w.map φ).getD i 0 = φ (w.getD i 0) := by
  rw [List.getD_eq_getElem?_getD, List.getD_eq_getElem?_getD, List.getElem?_map, List.getElem?_eq_getElem h]; rfl
theorem majOf_ph (w : List Int) : majOf (w.map φ) = majOf w := by
  unfold majOf descOf
  rw [List.length_map]
  congr 2
  refine List.filter_congr fun i hi => ?_
  have h := List.mem_range.mp hi
  rw [getD_ph hφ w (show i + 1 < w.length by omega), getD_ph hφ w (show i < w.length by omega)]
  exact decide_eq_decide.mpr (ph_lt hφ _ _)
theorem majL_ph (W : List (List Int)) : majL (W.map (List.map φ)) = majL W := by
  unfold majL
  rw [List.map_map]
  exact List.map_congr_left fun w _ => congrArg Nat.cast (majOf_ph hφ w)
theorem ltL_ph : ∀ a b : List Int, ltL (a.map φ) (b.map φ) = ltL a b
  | [], [] => rfl
  | [], _ :: _ => rfl
  | _ :: _, [] => rfl
  | x :: a, y :: b => by
    rw [List.map_cons, List.map_cons, ltL, ltL, ltL_ph a b]
    by_cases h : x = y
    · rw [if_pos h, if_pos (congrArg φ h)]
    · rw [if_neg h, if_neg (fun e => h ((ph_eq hφ x y).mp e))]
      exact decide_eq_decide.mpr (ph_lt hφ _ _)
omit hφ in
theorem getDW_ph (W : List (List Int)) (i : Nat) : (W.map (List.map φ)).getD i [] = (W.getD i []).map φ := by
  rw [List.getD_eq_getElem?_getD, List.getD_eq_getElem?_getD, List.getElem?_map]
  cases W[i]? <;> rfl
theorem bisF_ph (W : List (List Int)) (x : List Int) : ∀ f lo hi, bisF (W.map (List.map φ)) (x.map φ) f lo hi = bisF W x f lo hi
  | 0, _, _ => rfl
  | f + 1, lo, hi => by
    rw [bisF, bisF, getDW_ph, ltL_ph hφ, bisF_ph W x f, bisF_ph W x f]
theorem nxt_ph (W : List (List Int)) (st p : Nat) : nxt (W.map (List.map φ)) st p = nxt W st p := by
  unfold nxt bis rot
  rw [getDW_ph, List.length_map, ← List.map_drop, ← List.map_take, ← List.map_append]
  exact bisF_ph hφ W _ _ _ _
theorem ringF_ph (W : List (List Int)) (st : Nat) : ∀ f met p z, ringF (W.map (List.map φ)) st f met p z = ringF W st f met p z
  | 0, _, _, _ => rfl
  | f + 1, met, p, z => by
    rw [ringF, ringF, nxt_ph hφ, ringF_ph W st f]
theorem ringsOf_ph (W : List (List Int)) (st : Nat) : ringsOf (W.map (List.map φ)) st = ringsOf W st := by
  unfold ringsOf ringsAt
  rw [List.length_map]
  have e : ringsStep (W.map (List.map φ)) st = ringsStep W st := by
    funext q k
    unfold ringsStep
    rw [List.length_map, ringF_ph hφ]
  rw [e]
theorem plain_of {c0 : Int} {cr ms : List Int} {n wd : Nat} {m : Int} (h : PlainB c0 cr ms n = true) (hw : wd ∈ ([5, 6, 7, 8] : List Nat)) (hm : m ∈ chOf n) {kinds : List (Int × Int)} (hk : kinds = (kz ms).map fun p => (φ p.1, p.2)) :
    ∃ A B q sh : Nat, Plain c0 cr n wd m.toNat kinds A B q sh := by
  unfold PlainB at h
  rw [Bool.and_eq_true, Bool.and_eq_true, List.all_eq_true, List.all_eq_true] at h
  obtain ⟨⟨h1, h2⟩, h3⟩ := h
  replace h2 := h2 wd hw
  replace h3 := h3 m hm
  rw [Bool.and_eq_true, List.all_eq_true] at h3
  obtain ⟨h3, h4⟩ := h3
  replace h4 := h4 wd hw
  have eW : ∀ k, wordsOf kinds k = (wordsOf (kz ms) k).map (List.map φ) := fun k => by rw [hk]; exact wordsOf_ph hφ _ k
  simp only [PlainW, PlainA, PlainS, PlainF, Bool.and_eq_true, List.all_eq_true, decide_eq_true_eq, List.mem_range] at h1 h2 h3 h4
  obtain ⟨⟨a1, a2⟩, a3⟩ := h1
  obtain ⟨⟨⟨⟨⟨⟨⟨⟨b1, b2⟩, b3⟩, b4⟩, b5⟩, b6⟩, b7⟩, b8⟩, b9⟩ := h2
  obtain ⟨⟨⟨⟨⟨⟨⟨c1, c2⟩, c3⟩, c4⟩, c5⟩, c6⟩, c7⟩, c8⟩ := h3
  obtain ⟨⟨⟨⟨d1, d2⟩, d3⟩, d4⟩, d5⟩ := h4
  refine ⟨_, _, _, _, ?_, ?_, ?_, b1, b2, b3, b4, b5, b6, b7, b8, ?_, c1, c2, c3, c4, c5, ?_, ?_, ?_, ?_, d2, d3, d4, ?_⟩
  · intro k hk; rw [eW, List.length_map]; exact a1 k (by omega)
  · rw [eW, List.length_map]; exact a2
  · rw [eW, majL_ph hφ]; exact a3
  · rw [eW, majL_ph hφ]; exact b9
  · intro p hp; rw [eW, List.length_map] at hp; rw [eW, List.length_map, nxt_ph hφ]; exact c6 p hp
  · rw [eW, ringsOf_ph hφ]; exact c7
  · rw [eW, ringsOf_ph hφ]; exact c8
  · rw [eW, ringsOf_ph hφ]; exact d1
  · rw [eW, ringsOf_ph hφ]; exact d5
end
def ph (a b c d x : Int) : Int := if x ≤ 0 then a + x else if x = 1 then b else if x = 2 then c else d + (x - 3)
theorem ph_mono {a b c d : Int} (h1 : a < b) (h2 : b < c) (h3 : c < d) (x y : Int) (h : x < y) : ph a b c d x < ph a b c d y := by
  unfold ph
  split <;> split <;> (try split) <;> (try split) <;> (try split) <;> (try split) <;> omega
theorem dvOf_mem {n : Nat} (x : Int) (h : 0 < (chOf n).length) : dvOf n x ∈ chOf n := by
  unfold dvOf
  have h1 := Int.fmod_nonneg_of_pos (x.fdiv 4) (show (0 : Int) < ((chOf n).length : Int) by omega)
  have h2 := Int.fmod_lt_of_pos (x.fdiv 4) (show (0 : Int) < ((chOf n).length : Int) by omega)
  have hi : ((-1 - (x.fdiv 4).fmod (chOf n).length) + (chOf n).length).toNat < (chOf n).length := by omega
  rw [List.getD_eq_getElem?_getD, List.getElem?_eq_getElem hi]
  exact List.getElem_mem hi
theorem chOf_nn : ∀ n : Fin 9, ∀ m ∈ chOf n.val, 0 ≤ m := by decide +kernel
end Mine
end
section
open PySem PySem.W PySem.Spec PySem.Calls PyProof.Rows
namespace Mine
set_option maxRecDepth 100000
set_option maxHeartbeats 8000000
theorem below_ok {x0 c0 : Int} {cr : List Int} (hct : ctOf (x0.fmod 7) = c0 :: cr) : (∀ n ∈ belowL cr, 1 ≤ n ∧ n ≤ 8) ∧ (belowL cr).length ≤ 8 := by
  have key : ∀ i : Fin 7, (∀ n ∈ belowL (ctOf (i.val : Int)).tail, 1 ≤ n ∧ n ≤ 8) ∧ (belowL (ctOf (i.val : Int)).tail).length ≤ 8 := by decide +kernel
  have h1 := Int.fmod_nonneg_of_pos x0 (show (0 : Int) < 7 by decide)
  have h2 := Int.fmod_lt_of_pos x0 (show (0 : Int) < 7 by decide)
  have e : x0.fmod 7 = (((⟨(x0.fmod 7).toNat, by omega⟩ : Fin 7).val : Nat) : Int) := by show _ = (((x0.fmod 7).toNat : Nat) : Int); omega
  have z := key ⟨(x0.fmod 7).toNat, by omega⟩
  rw [← e, hct] at z
  exact z
theorem perm_sum {l l' : List Int} (h : l.Perm l') : l.sum = l'.sum := by
  induction h with
  | nil => rfl
  | cons x _ ih => rw [List.sum_cons, List.sum_cons, ih]
  | swap x y l => rw [List.sum_cons, List.sum_cons, List.sum_cons, List.sum_cons]; omega
  | trans _ _ ih1 ih2 => rw [ih1, ih2]
theorem pb2 {a b x y : Int} (hP : [x, y].Perm [a, b]) (h : PlainB a [b] [a, b] (a + b).toNat = true ∧ PlainB a [b] [b, a] (a + b).toNat = true) : PlainB a [b] [x, y] (a + b).toNat = true := by
  have hx : x = a ∨ x = b := by simpa using hP.subset (.head _)
  have hs : x + (y + 0) = a + (b + 0) := perm_sum hP
  rcases hx with hx | hx
  · rw [hx, show y = b by omega]; exact h.1
  · rw [hx, show y = a by omega]; exact h.2
theorem pb3 {a b x y z : Int} (hP : [x, y, z].Perm [a, b, b]) (h : PlainB a [b, b] [a, b, b] (a + b + b).toNat = true ∧ PlainB a [b, b] [b, a, b] (a + b + b).toNat = true ∧ PlainB a [b, b] [b, b, a] (a + b + b).toNat = true) : PlainB a [b, b] [x, y, z] (a + b + b).toNat = true := by
  have hx : x = a ∨ x = b := by simpa using hP.subset (.head _)
  have hy : y = a ∨ y = b := by simpa using hP.subset (.tail _ (.head _))
  have hz : z = a ∨ z = b := by simpa using hP.subset (.tail _ (.tail _ (.head _)))
  have hs : x + (y + (z + 0)) = a + (b + (b + 0)) := perm_sum hP
  rcases hx with hx | hx
  · rw [hx]
    have e : y = b ∧ z = b := by omega
    rw [e.1, e.2]; exact h.1
  · rw [hx]
    rcases hy with hy | hy
    · rw [hy, show z = b by omega]; exact h.2.1
    · rw [hy, show z = a by omega]; exact h.2.2
theorem pb3' {a b x y z : Int} (hP : [x, y, z].Perm [a, a, b]) (h : PlainB a [a, b] [b, a, a] (a + a + b).toNat = true ∧ PlainB a [a, b] [a, b, a] (a + a + b).toNat = true ∧ PlainB a [a, b] [a, a, b] (a + a + b).toNat = true) : PlainB a [a, b] [x, y, z] (a + a + b).toNat = true := by
  have hx : x = a ∨ x = b := by simpa using hP.subset (.head _)
  have hy : y = a ∨ y = b := by simpa using hP.subset (.tail _ (.head _))
  have hz : z = a ∨ z = b := by simpa using hP.subset (.tail _ (.tail _ (.head _)))
  have hs : x + (y + (z + 0)) = a + (a + (b + 0)) := perm_sum hP
  rcases hx with hx | hx
  · rw [hx]
    rcases hy with hy | hy
    · rw [hy, show z = b by omega]; exact h.2.2
    · rw [hy, show z = a by omega]; exact h.2.1
  · rw [hx]
    have e : y = a ∧ z = a := by omega
    rw [e.1, e.2]; exact h.1
theorem pl_0 : PlainB 4 [2] [4, 2] (4 + 2 : Int).toNat = true ∧ PlainB 4 [2] [2, 4] (4 + 2 : Int).toNat = true := by decide +kernel
theorem pl_1 : PlainB 3 [3] [3, 3] (3 + 3 : Int).toNat = true ∧ PlainB 3 [3] [3, 3] (3 + 3 : Int).toNat = true := by decide +kernel
theorem pl_2 : PlainB 2 [1, 1] [2, 1, 1] (2 + 1 + 1 : Int).toNat = true ∧ PlainB 2 [1, 1] [1, 2, 1] (2 + 1 + 1 : Int).toNat = true ∧ PlainB 2 [1, 1] [1, 1, 2] (2 + 1 + 1 : Int).toNat = true := by decide +kernel
theorem pl_3 : PlainB 4 [1, 1] [4, 1, 1] (4 + 1 + 1 : Int).toNat = true ∧ PlainB 4 [1, 1] [1, 4, 1] (4 + 1 + 1 : Int).toNat = true ∧ PlainB 4 [1, 1] [1, 1, 4] (4 + 1 + 1 : Int).toNat = true := by decide +kernel
theorem pl_4 : PlainB 6 [2] [6, 2] (6 + 2 : Int).toNat = true ∧ PlainB 6 [2] [2, 6] (6 + 2 : Int).toNat = true := by decide +kernel
theorem pl_5 : PlainB 2 [2, 1] [1, 2, 2] (2 + 2 + 1 : Int).toNat = true ∧ PlainB 2 [2, 1] [2, 1, 2] (2 + 2 + 1 : Int).toNat = true ∧ PlainB 2 [2, 1] [2, 2, 1] (2 + 2 + 1 : Int).toNat = true := by decide +kernel
theorem pl_6 : PlainB 1 [1, 1, 1] [1, 1, 1, 1] 4 = true := by decide +kernel
theorem len2 {l : List Int} (h : l.length = 2) : ∃ x y, l = [x, y] := by
  match l, h with
  | [x, y], _ => exact ⟨x, y, rfl⟩
theorem len3 {l : List Int} (h : l.length = 3) : ∃ x y z, l = [x, y, z] := by
  match l, h with
  | [x, y, z], _ => exact ⟨x, y, z, rfl⟩
theorem len4 {l : List Int} (h : l.length = 4) : ∃ x y z u, l = [x, y, z, u] := by
  match l, h with
  | [x, y, z, u], _ => exact ⟨x, y, z, u, rfl⟩
theorem plain_ms {x0 c0 : Int} {cr ms : List Int} {n : Nat} (hct : ctOf (x0.fmod 7) = c0 :: cr) (hn0 : (c0 :: cr).sum = n) (hP : ms.Perm (c0 :: cr)) : PlainB c0 cr ms n = true ∧ 0 < (chOf n).length ∧ n ≤ 8 := by
  have h1 := Int.fmod_nonneg_of_pos x0 (show (0 : Int) < 7 by decide)
  have h2 := Int.fmod_lt_of_pos x0 (show (0 : Int) < 7 by decide)
  have hl := hP.length_eq
  generalize x0.fmod 7 = i at hct h1 h2
  have hi : i = 0 ∨ i = 1 ∨ i = 2 ∨ i = 3 ∨ i = 4 ∨ i = 5 ∨ i = 6 := by omega
  have hnn : n = ((c0 :: cr).sum).toNat := by rw [hn0]; rfl
  rcases hi with rfl | rfl | rfl | rfl | rfl | rfl | rfl
  · obtain ⟨rfl, rfl⟩ : c0 = 4 ∧ cr = [2] := by cases hct; exact ⟨rfl, rfl⟩
    obtain ⟨x, y, rfl⟩ := len2 hl
    subst hnn
    exact ⟨pb2 hP pl_0, by decide +kernel, by decide⟩
  · obtain ⟨rfl, rfl⟩ : c0 = 3 ∧ cr = [3] := by cases hct; exact ⟨rfl, rfl⟩
    obtain ⟨x, y, rfl⟩ := len2 hl
    subst hnn
    exact ⟨pb2 hP pl_1, by decide +kernel, by decide⟩
  · obtain ⟨rfl, rfl⟩ : c0 = 2 ∧ cr = [1, 1] := by cases hct; exact ⟨rfl, rfl⟩
    obtain ⟨x, y, z, rfl⟩ := len3 hl
    subst hnn
    exact ⟨pb3 hP pl_2, by decide +kernel, by decide⟩
  · obtain ⟨rfl, rfl⟩ : c0 = 4 ∧ cr = [1, 1] := by cases hct; exact ⟨rfl, rfl⟩
    obtain ⟨x, y, z, rfl⟩ := len3 hl
    subst hnn
    exact ⟨pb3 hP pl_3, by decide +kernel, by decide⟩
  · obtain ⟨rfl, rfl⟩ : c0 = 6 ∧ cr = [2] := by cases hct; exact ⟨rfl, rfl⟩
    obtain ⟨x, y, rfl⟩ := len2 hl
    subst hnn
    exact ⟨pb2 hP pl_4, by decide +kernel, by decide⟩
  · obtain ⟨rfl, rfl⟩ : c0 = 2 ∧ cr = [2, 1] := by cases hct; exact ⟨rfl, rfl⟩
    obtain ⟨x, y, z, rfl⟩ := len3 hl
    subst hnn
    exact ⟨pb3' hP pl_5, by decide +kernel, by decide⟩
  · obtain ⟨rfl, rfl⟩ : c0 = 1 ∧ cr = [1, 1, 1] := by cases hct; exact ⟨rfl, rfl⟩
    obtain ⟨x, y, z, u, rfl⟩ := len4 hl
    have hx : x = 1 := by simpa using hP.subset (.head _)
    have hy : y = 1 := by simpa using hP.subset (.tail _ (.head _))
    have hz : z = 1 := by simpa using hP.subset (.tail _ (.tail _ (.head _)))
    have hu : u = 1 := by simpa using hP.subset (.tail _ (.tail _ (.tail _ (.head _))))
    subst hx hy hz hu hnn
    exact ⟨pl_6, by decide +kernel, by decide⟩
theorem kinds_ph {kinds : List (Int × Int)} (hkS : kinds.Pairwise fun p q => p.1 < q.1) (hl : 2 ≤ kinds.length ∧ kinds.length ≤ 4) :
    ∃ φ : Int → Int, (∀ x y, x < y → φ x < φ y) ∧ kinds = (kz (kinds.map (·.2))).map fun p => (φ p.1, p.2) := by
  match kinds, hl with
  | [(a, m1), (b, m2)], _ =>
    simp only [List.pairwise_cons, List.mem_cons, List.mem_nil_iff, or_false, forall_eq_or_imp, forall_eq] at hkS
    exact ⟨ph a b (b + 1) (b + 2), ph_mono hkS.1 (by omega) (by omega), by simp [kz, ph]⟩
  | [(a, m1), (b, m2), (c, m3)], _ =>
    simp only [List.pairwise_cons, List.mem_cons, List.mem_nil_iff, or_false, forall_eq_or_imp, forall_eq] at hkS
    exact ⟨ph a b c (c + 1), ph_mono hkS.1.1 hkS.2.1 (by omega), by simp [kz, ph]⟩
  | [(a, m1), (b, m2), (c, m3), (d, m4)], _ =>
    simp only [List.pairwise_cons, List.mem_cons, List.mem_nil_iff, or_false, forall_eq_or_imp, forall_eq] at hkS
    exact ⟨ph a b c d, ph_mono hkS.1.1 hkS.2.1.1 hkS.2.2.1, by simp [kz, ph]⟩
theorem plain_all (x0 x1 : Int) {c0 : Int} {cr : List Int} {n wd : Nat} {kinds : List (Int × Int)} (hct : ctOf (x0.fmod 7) = c0 :: cr) (hn0 : (c0 :: cr).sum = n) (hl : 2 ≤ (c0 :: cr).length ∧ (c0 :: cr).length ≤ 4)
    (hkS : kinds.Pairwise fun p q => p.1 < q.1) (hkP : (kinds.map (·.2)).Perm (c0 :: cr)) (hwd0 : 5 + x1.fmod 4 = wd) :
    ∃ A B q sh st : Nat, dvOf n x1 = st ∧ Plain c0 cr n wd st kinds A B q sh := by
  obtain ⟨hB, hp, hn8⟩ := plain_ms hct hn0 hkP
  have hle := hkP.length_eq
  rw [List.length_map] at hle
  obtain ⟨φ, hφ, hk⟩ := kinds_ph hkS (by omega)
  have h1 := Int.fmod_nonneg_of_pos x1 (show (0 : Int) < 4 by decide)
  have h2 := Int.fmod_lt_of_pos x1 (show (0 : Int) < 4 by decide)
  have hw : wd ∈ ([5, 6, 7, 8] : List Nat) := by
    have : wd = 5 ∨ wd = 6 ∨ wd = 7 ∨ wd = 8 := by omega
    simpa using this
  have hm := dvOf_mem x1 hp
  have hnn := chOf_nn ⟨n, by omega⟩ _ hm
  obtain ⟨A, B, q, sh, PF⟩ := plain_of hφ hB hw hm hk
  exact ⟨A, B, q, sh, (dvOf n x1).toNat, (Int.toNat_of_nonneg hnn).symm, PF⟩
end Mine
end
section
open PySem PySem.W PySem.Spec PySem.Calls PyProof.Rows
namespace Mine
set_option maxRecDepth 100000
set_option maxHeartbeats 1000000

theorem turn1_0 (elt t0 i0 : PySem.Expr) (f0 : List PySem.Expr) (scope : Scope) (pos : Pos) (it acc : Value) (env : Env) :
    compTurn (.ListComp elt [⟨t0, i0, f0, 0⟩] scope pos) 0 it acc env = (do
      standAt i0.pos
      match ← pyNext it with
      | none => pure (.done .next)
      | some v =>
        letOwnedTupleGo t0 it v
        assign t0 env v
        let mut ok := true
        for c in f0 do
          if ok then ok ← PySem.isTrue c env (eval c env)
        if ok then
          (do let _ ← call (.builtin "list.append") [acc, ← eval elt env])
        again (.compLoop (.ListComp elt [⟨t0, i0, f0, 0⟩] scope pos) 0 it acc env)) := by rfl

section
variable {w : World} {A : Around} {s : Shared} {h₀ : Heap} {L : Addr} {m : Str → Option Value} {cenv : Env} {elt t0 i0 : PySem.Expr} {f0 : List PySem.Expr} {scope : Scope} {pos : Pos} {acc : Value} {R : Result → Shared → Prop}
abbrev cmp1 (elt t0 i0 : PySem.Expr) (f0 : List PySem.Expr) (scope : Scope) (pos : Pos) : PySem.Expr := .ListComp elt [⟨t0, i0, f0, 0⟩] scope pos

theorem loopD {I : Addr} {it : Nat → Obj → Prop} {item : Nat → Value → Prop} {n : Nat} {Ok : Heap → Prop} {news : List (Addr × Obj)} {o₀ : Obj} (It : Iter w A I it item n Ok) (J : Nat → List (Addr × Obj) → Prop)
    (F : Fr h₀ L s.heap m) (h0 : it 0 o₀) (N : News h₀ L s.heap ((I, o₀) :: news)) (hI : ∀ p ∈ news, p.1 ≠ I) (hj : J 0 news)
    (hok : ∀ k nx h, J k nx → Fr h₀ L h m → News h₀ L h nx → Ok h)
    (turn : ∀ k v nx h tk o, k < n → item k v → it (k + 1) o → J k nx → (∀ p ∈ nx, p.1 ≠ I) → Fr h₀ L h m → News h₀ L h ((I, o) :: nx) →
      wpAny (model prog w) A (assign t0 cenv v) (fun _ s₂ => wpAny (model prog w) A (forIn f0 true fun c r => if r = true then do let ok ← PySem.isTrue c cenv (eval c cenv); pure (ForInStep.yield ok) else pure (ForInStep.yield r)) (fun ok s₃ =>
        if ok = true then wpAny (model prog w) A (eval elt cenv) (fun x s₄ => wpAny (model prog w) A (call (.builtin "list.append") [acc, x]) (fun _ s₅ => CEnd h₀ L m { s with heap := h, toks := tk } I o (J (k + 1)) s₅) NoE s₄) NoE s₃
        else CEnd h₀ L m { s with heap := h, toks := tk } I o (J (k + 1)) s₃) NoE s₂) NoE { s with heap := h, toks := tk })
    (done : ∀ nx h tk, J n nx → Fr h₀ L h m → News h₀ L h nx → R (.ok .next) { s with heap := h, toks := tk }) :
    codeAny (model prog w) A (.compLoop (cmp1 elt t0 i0 f0 scope pos) 0 (.ref I) acc cenv) R s := by
  have nL : ∀ {h o} {nx : List (Addr × Obj)}, News h₀ L h ((I, o) :: nx) → L ≠ I := fun N => (N _ (.head _)).2.1.symm
  have n0 : h₀.get? I = none := (N _ (.head _)).2.2
  refine codeAny_loop rfl (fun k s' => ∃ i nx h tk o, k = n - i ∧ i ≤ n ∧ s' = { s with heap := h, toks := tk } ∧ J i nx ∧ (∀ p ∈ nx, p.1 ≠ I) ∧ it i o ∧ Fr h₀ L h m ∧ News h₀ L h ((I, o) :: nx)) ?_ n ⟨0, news, s.heap, s.toks, o₀, rfl, Nat.zero_le _, rfl, hj, hI, h0, F, N⟩
  rintro k s' ⟨i, nx, h, tk, o, rfl, hi, rfl, hJ, hoff, hio, F', N'⟩
  show wpAny _ A ((compTurn (cmp1 elt t0 i0 f0 scope pos) 0 (.ref I) acc cenv).onRaise (fun x => do noteFrame x cenv; theTreesLotGoes x)) _ _ _
  refine wpAny_noted (wpAny_noRaise ?_)
  rw [turn1_0]
  have Nx : News h₀ L h nx := fun p hp => N' p (.tail _ hp)
  have ok := hok i nx h hJ F' Nx
  refine wpAny_bind (wpAny_standAt (wpAny_bind ?_))
  by_cases hlt : i < n
  · refine It.next i o _ _ _ hlt hio (N' _ (.head _)).1 ok fun v h₁ tk₁ o₁ hv hio₁ hI₁ hs₁ => ?_
    have F₁ := frSameBut F' hs₁.extBut (nL N') n0
    have N₁ : News h₀ L h₁ ((I, o₁) :: nx) := fun p hp => by
      rcases List.mem_cons.mp hp with rfl | hp
      · exact ⟨hI₁, (N' _ (.head _)).2⟩
      · exact newsSameBut Nx hs₁.extBut hoff p hp
    refine wpAny_bind (It.quiet (i + 1) o₁ _ t0 v _ _ hio₁ (by exact hI₁) ?_)
    have fin : ∀ {s₃}, CEnd h₀ L m { s with heap := h₁, toks := tk₁ } I o₁ (J (i + 1)) s₃ → ∃ mm, mm < n - i ∧ ∃ i' nx h tk o, mm = n - i' ∧ i' ≤ n ∧ s₃ = { s with heap := h, toks := tk } ∧ J i' nx ∧ (∀ p ∈ nx, p.1 ≠ I) ∧ it i' o ∧ Fr h₀ L h m ∧ News h₀ L h ((I, o) :: nx) := by
      rintro s₃ ⟨h', tk', nx', rfl, F₂, N₂, ho, hJ₂⟩
      exact ⟨n - (i + 1), by omega, i + 1, nx', h', tk', o₁, rfl, hlt, rfl, hJ₂, ho, hio₁, F₂, N₂⟩
    refine wpAny_bind (wpAny_mono (turn i v nx h₁ tk₁ o₁ hlt hv hio₁ hJ hoff F₁ N₁) (fun _ s₂ h₂ => wpAny_bind (wpAny_mono h₂ (fun ok s₃ h₃ => ?_) fun _ _ e => e)) fun _ _ e => e)
    cases ok with
    | false => exact wpAny_pure ⟨rfl, fin h₃⟩
    | true => exact wpAny_bind (wpAny_bind (wpAny_mono h₃ (fun x s₄ h₄ => wpAny_bind (wpAny_mono h₄ (fun _ s₅ h₅ => wpAny_pure (wpAny_pure ⟨rfl, fin h₅⟩)) fun _ _ e => e)) fun _ _ e => e))
  · have hin : i = n := by omega
    subst hin
    refine It.done o _ _ _ hio (N' _ (.head _)).1 ok fun h₁ hs₁ => wpAny_pure ?_
    exact done nx h₁ tk hJ (frSameBut F' hs₁ (nL N') n0) (newsSameBut Nx hs₁ hoff)

theorem startD {it acc : Value} (hself : ∀ E, wpAny (model prog w) A (pyIter it) (fun it' s' => it' = it ∧ s' = s) E s) (h : codeAny (model prog w) A (.compLoop (cmp1 elt t0 i0 f0 scope pos) 0 it acc cenv) R s) :
    codeAny (model prog w) A (.compStart (cmp1 elt t0 i0 f0 scope pos) 0 it acc cenv) R s :=
  codeAny_compStart_list h (wpAny_mono (hself _) (fun it' s' q => by obtain ⟨rfl, rfl⟩ := q; exact h) fun _ _ e => e)
section
variable {env : Env} {cl : List (Str × Addr)} {E : Value → Shared → Prop}
theorem comp_openK {e : PySem.Expr} {it : Value} {news : List (Addr × Obj)} {RR : Value → Addr → Result → Shared → Prop} {kn : Str} (F : Fr h₀ L s.heap m) (N : News h₀ L s.heap news) (hcells : ∀ n, cellsFrom n scope.names cl = (kn, n) :: cl)
    (hpush : ∀ h, pushCells h scope.names = h.push { cls := .type "cell", data := .cell none })
    (h : ∀ C K oC oK D h tk, LCg.NsObj oC (fun _ => none) → oK.data = .cell none → Fr h₀ L h m → News h₀ L h ((C, oC) :: (K, oK) :: (D, LCg.lst []) :: news) → (∀ p ∈ news, p.1 < D) → D < C → C < K → codeAny (model prog w) A (.compStart e 0 it (.ref D) (compEnvC scope ((kn, K) :: cl) C env)) (RR (.ref D) C) { s with heap := h, toks := tk }) :
    wpAny (model prog w) A (newList []) (fun acc s₃ => wpAny (model prog w) A (newFunctionEnv scope env.globals cl [] env.qual none .none (some env)) (fun cenv s₄ =>
      codeAny (model prog w) A (.compStart e 0 it acc { cenv with scope := relabel scope env }) (RR acc cenv.locals) s₄) E s₃) E s := by
  refine wpAny_newObj_type ?_
  have F2 := F.push { cls := .type "list", dict := none, data := .seq ([] : List Value).toArray }
  have N2 := N.push F { cls := .type "list", dict := none, data := .seq ([] : List Value).toArray }
  have hsz : (s.heap.push { cls := .type "list", dict := none, data := .seq ([] : List Value).toArray }).objs.size = s.heap.objs.size + 1 := Heap.size_push ..
  generalize hH2 : s.heap.push { cls := .type "list", dict := none, data := .seq ([] : List Value).toArray } = H2 at *
  simp only [newFunctionEnv, Option.isSome_some, if_true]
  refine wpAny_bind (wpAny_alloc ?_)
  refine wpAny_bind (wpAny_layCells _ (fun name kind cells => by cases hkc : kind == NameKind.cell <;> simp [hkc]) _ _ _ _ ?_)
  dsimp only
  rw [hcells, hpush]
  have F3 := F2.push { cls := .type "dict", data := .dict #[] }
  have N3 := N2.push F2 { cls := .type "dict", data := .dict #[] }
  have hsz3 : (H2.push { cls := .type "dict", data := .dict #[] }).objs.size = H2.objs.size + 1 := Heap.size_push ..
  have hns := Heap.Ns.new H2 (.type "dict")
  generalize hH3 : H2.push { cls := .type "dict", data := .dict #[] } = H3 at *
  have F4 := F3.push { cls := .type "cell", data := .cell none }
  have N4 := N3.push F3 { cls := .type "cell", data := .cell none }
  obtain ⟨oC, hgC, hoC⟩ := LCg.ns_obj hns
  have hg3 : H3.get? H2.objs.size = some { cls := .type "dict", data := .dict #[] } := by rw [← hH3]; exact Heap.get?_push_size _ rfl
  rw [hg3] at hgC
  cases hgC
  refine wpAny_bind (wpAny_pure (wpAny_pure ?_))
  refine h H2.objs.size H3.objs.size _ { cls := .type "cell", data := .cell none } s.heap.objs.size _ _ hoC rfl F4 (newsSub N4 ?_) (fun p hp => Heap.lt_size (N p hp).1) (by rw [hsz]; exact Nat.lt_succ_self _) (by rw [hsz3]; exact Nat.lt_succ_self _)
  intro p hp
  simp only [List.mem_cons] at hp ⊢
  rcases hp with hp | hp | hp | hp <;> simp [hp]

theorem eval_cmp1 {Q : Value → Shared → Prop} (_F : Fr h₀ L s.heap m) (hclos : closureFor scope env = pure cl) (hcell : ∀ y ∈ scope.names, y.2 ≠ .cell) (hkind : scope.kind = .function)
    (hnames : ∀ y ∈ scope.names, y.2 = .local → scope.names.lookup y.1 = some .local)
    (h : wpAny (model prog w) A (eval i0 env) (fun xv s₁ => wpAny (model prog w) A (pyIter xv) (fun it s₂ => ∃ news, Fr h₀ L s₂.heap m ∧ News h₀ L s₂.heap news ∧
      ∀ C oC mC D h tk, LCg.NsObj oC mC → Fr h₀ L h m → News h₀ L h ((C, oC) :: (D, LCg.lst []) :: news) → (∀ p ∈ news, p.1 < D) → D < C →
        codeAny (model prog w) A (.compStart (cmp1 elt t0 i0 f0 scope pos) 0 it (.ref D) (compEnvC scope cl C env))
          (CDone h₀ L C m s₂ fun nx => ∀ h'' tk', Fr h₀ L h'' m → News h₀ L h'' nx → Q (.ref D) { s₂ with heap := h'', toks := tk' }) { s₂ with heap := h, toks := tk }) NoE s₁) NoE s)
    (hs : ∀ x, foldedSetIterable i0 env x = pure x := by intro _; rfl) :
    wpAny (model prog w) A (eval (cmp1 elt t0 i0 f0 scope pos) env) Q NoE s := by
  rw [eval_ListComp]
  refine wpAny_comprehension_free (use := none) rfl hs hclos hkind hnames (wpAny_mono h (fun xv s₁ h₁ => wpAny_mono h₁ (fun it s₂ h₂ => ?_) fun _ _ e => e) fun _ _ e => e)
  obtain ⟨news, F, N, k⟩ := h₂
  refine comp_open (RR := fun acc C => compPost (model prog w) A NoE none Q acc C) F N hcell hkind fun C oC mC D h tk hC F₁ N₁ l1 l2 => codeAny_mono (k C oC mC D h tk hC F₁ N₁ l1 l2) fun r s' hr => ?_
  cases r with
  | error x => exact hr.elim
  | ok f =>
    obtain ⟨h', tk', oC', mC', nx, rfl, hC', F₂, N₂, off, fin⟩ := hr
    have z := N₂ _ (.head _)
    exact ⟨mC', hC'.ns z.1, fun h'' hs'' => fin h'' tk' (F₂.change hs'' z.2.1 z.2.2) fun p hp => ⟨hs''.extBut _ _ (off p hp) (N₂ p (.tail _ hp)).1, (N₂ p (.tail _ hp)).2⟩⟩

theorem assign_cmp1K {y : Str} {py spos : Pos} {Q : Flow → Shared → Prop} (_F : Fr h₀ L s.heap m) (hLe : env.locals = L) (hsw : swapsWith (cmp1 elt t0 i0 f0 scope pos) (some (.Name y py)) spos.line env = pure true)
    (hclos : closureFor scope env = pure cl) {kn : Str} (hcells : ∀ n, cellsFrom n scope.names cl = (kn, n) :: cl) (hpush : ∀ h, pushCells h scope.names = h.push { cls := .type "cell", data := .cell none }) (hkind : scope.kind = .function)
    (hnames : ∀ y ∈ scope.names, y.2 = .local → scope.names.lookup y.1 = some .local)
    (hy : env.kindOf y = some .local) (hp : (env.scope.kind == .class || (env.scope.kind == .module && env.locals != env.globals)) = false)
    (h : wpAny (model prog w) A (eval i0 env) (fun xv s₁ => wpAny (model prog w) A (pyIter xv) (fun it s₂ => ∃ news, Fr h₀ L s₂.heap m ∧ News h₀ L s₂.heap news ∧
      ∀ C K oC oK D h tk, LCg.NsObj oC (fun _ => none) → oK.data = .cell none → Fr h₀ L h m → News h₀ L h ((C, oC) :: (K, oK) :: (D, LCg.lst []) :: news) → (∀ p ∈ news, p.1 < D) → D < C → C < K →
        codeAny (model prog w) A (.compStart (cmp1 elt t0 i0 f0 scope pos) 0 it (.ref D) (compEnvC scope ((kn, K) :: cl) C env))
          (CDone h₀ L C m s₂ fun nx => ∀ h'' tk', Fr h₀ L h'' (fun z => if z = y then some (.ref D) else m z) → News h₀ L h'' nx → Q .next { s₂ with heap := h'', toks := tk' }) { s₂ with heap := h, toks := tk }) NoE s₁) NoE s)
    (hs : ∀ x, foldedSetIterable i0 env x = pure x := by intro _; rfl) :
    wpAny (model prog w) A (exec (.Assign [.Name y py] (cmp1 elt t0 i0 f0 scope pos) spos) env) Q NoE s := by
  subst hLe
  rw [exec_Assign_Name_used _ _ _ _ hsw]
  refine wpAny_bind (wpAny_standAt (wpAny_bind ?_))
  show wpAny _ A (do let _ ← comprehension (cmp1 elt t0 i0 f0 scope pos) scope env _ (newList []) false (eval i0 env) (some (assign (.Name y py) env))) _ _ s
  refine wpAny_bind (wpAny_mono (wpAny_comprehension_free (use := some (assign (.Name y py) env)) (Q := fun _ s' => Q .next s') rfl hs hclos hkind hnames
    (wpAny_mono h (fun xv s₁ h₁ => wpAny_mono h₁ (fun it s₂ h₂ => ?_) fun _ _ e => e) fun _ _ e => e)) (fun _ s' hq => wpAny_pure (wpAny_pure hq)) fun _ _ e => e)
  obtain ⟨news, F, N, k⟩ := h₂
  refine comp_openK (RR := fun acc C => compPost (model prog w) A NoE (some (assign (.Name y py) env)) (fun _ s' => Q .next s') acc C) F N hcells hpush fun C K oC oK D h tk hC hK F₁ N₁ l1 l2 l3 => codeAny_mono (k C K oC oK D h tk hC hK F₁ N₁ l1 l2 l3) fun r s' hr => ?_
  cases r with
  | error x => exact hr.elim
  | ok f =>
    obtain ⟨h', tk', oC', mC', nx, rfl, hC', F₂, N₂, off, fin⟩ := hr
    have z := N₂ _ (.head _)
    show wpAny _ A (assign (.Name y py) env (.ref D)) _ _ _
    refine wpAny_assign_Name (wpAny_storeName_local hy F₂.ns (fun h₂ hn₂ hs₂ => ?_) hp)
    have F₃ := F₂.set hn₂ hs₂
    have N₃ := N₂.set hs₂
    have z₃ := N₃ _ (.head _)
    exact ⟨mC', hC'.ns z₃.1, fun h'' hs'' => fin h'' _ (F₃.change hs'' z.2.1 z.2.2) fun p hp => ⟨hs''.extBut _ _ (off p hp) (N₃ p (.tail _ hp)).1, (N₃ p (.tail _ hp)).2⟩⟩
theorem assignK {x : Str} {px : Pos} {v : Value} {C K : Addr} {oK : Obj} {u : Option Value} {rest : List (Addr × Obj)} {Q : Unit → Shared → Prop} {E : Value → Shared → Prop} (hkind : scope.kind = .function) (hx : (compEnvC scope cl C env).kindOf x = some .cell) (hc : cl.lookup x = some K)
    (F : Fr h₀ L s.heap m) (N : News h₀ L s.heap ((K, oK) :: rest)) (hd : oK.data = .cell u) (off : ∀ p ∈ rest, p.1 ≠ K)
    (h : ∀ h' oK', oK'.data = .cell (some v) → Fr h₀ L h' m → News h₀ L h' ((K, oK') :: rest) → Q () { s with heap := h' }) :
    wpAny (model prog w) A (assign (.Name x px) (compEnvC scope cl C env) v) Q E s := by
  have z := N _ (.head _)
  refine wpAny_assign_Name (wpAny_storeName_cell hkind hx hc ⟨oK, z.1, hd⟩ fun h' hv hs => ?_)
  obtain ⟨o', ho', hd'⟩ := hv
  refine h h' o' hd' (F.change hs z.2.1 z.2.2) fun p hp => ?_
  rcases List.mem_cons.mp hp with rfl | hp
  · exact ⟨ho', z.2⟩
  · exact ⟨hs.extBut _ _ (off p hp) (N p (.tail _ hp)).1, (N p (.tail _ hp)).2⟩
end
end
end Mine
end
section
open PySem PySem.W PySem.Spec PySem.Calls PyProof.Rows
namespace Mine
set_option maxRecDepth 100000
set_option maxHeartbeats 8000000
theorem fill18 : (PySem.Challenge.rw_sn0080_01.row.prog = PySem.Challenge.rw_sn0080_01.row.prog) ∧ (Mine.K0 = Mine.K0) := by k_fill; exact ⟨rfl, rfl⟩

def isF (o : Obj) : Bool := match o.data with
  | .fields _ => true
  | _ => false
theorem isF_T {P : Addr} {pos : Pos} {qual : Str} {ts : List (Addr × Obj)} (h : TOk P pos qual ts) : ∀ q ∈ ts, isF q.2 = true := by
  rcases h with rfl | ⟨c', oc, vs, t, rfl, hd, _⟩
  · intro q hq; rw [List.mem_singleton.mp hq]; rfl
  · intro q hq
    rcases List.mem_cons.mp hq with rfl | hq
    · rfl
    · rw [List.mem_singleton.mp hq]; show isF oc = true; unfold isF; rw [hd]
theorem isF_TT {ts : List (Addr × Obj)} (h : TT ts) : ∀ q ∈ ts, isF q.2 = true := by
  obtain ⟨a, b, rfl, ha, hb, _⟩ := h
  intro q hq
  rcases List.mem_append.mp hq with hq | hq
  · exact isF_T ha q hq
  · exact isF_T hb q hq
theorem offK {h₀ h : Heap} {L : Addr} {rest ts : List (Addr × Obj)} (N : News h₀ L h (rest ++ ts)) (hk : ∀ p ∈ rest, isF p.2 = false) (hT : ∀ q ∈ ts, isF q.2 = true) : ∀ p ∈ rest, p.1 ∉ ts.map (·.1) := fun p hp hm => by
  obtain ⟨q, hq, e⟩ := List.mem_map.mp hm
  have z1 := (N p (List.mem_append_left _ hp)).1
  have z2 := (N q (List.mem_append_right _ hq)).1
  rw [e, z1] at z2
  have z3 := hk p hp
  rw [Option.some.inj z2, hT q hq] at z3
  cases z3
def kd (o : Obj) : Nat := match o.data with
  | .seq .. => 0
  | .cell _ => 1
  | .fields _ => 2
  | _ => 3
theorem kd0 {o : Obj} (h : kd o = 0) : isF o = false := by
  unfold kd at h; unfold isF
  split at h <;> simp_all
theorem kd2 {o : Obj} (h : isF o = true) : kd o = 2 := by
  unfold isF at h; unfold kd
  split at h <;> simp_all
theorem Tups.prune {tl : List (Addr × Obj)} : ∀ {vs : List Value} {wss : List (List Int)}, Tups (inL tl) vs wss → ∃ tl', Tups (inL tl') vs wss ∧ (∀ p ∈ tl', p ∈ tl) ∧ ∀ p ∈ tl', kd p.2 = 0
  | _, _, .nil => ⟨[], .nil, (fun p hp => by cases hp), fun p hp => by cases hp⟩
  | _, _, .cons (a := a) (us := us) hp hi hr => by
    obtain ⟨tl', h1, h2, h3⟩ := hr.prune
    refine ⟨(a, tupO us) :: tl', .cons (.head _) hi (h1.mono fun _ _ h => .tail _ h), (fun p hq => ?_), fun p hq => ?_⟩
    · rcases List.mem_cons.mp hq with rfl | hq
      · exact hp
      · exact h2 p hq
    · rcases List.mem_cons.mp hq with rfl | hq
      · rfl
      · exact h3 p hq
theorem newsAll {h₀ h h' : Heap} {L : Addr} {m : Str → Option Value} {news tl : List (Addr × Obj)} (F : Fr h₀ L h m) (N : News h₀ L h' news) (ht : ∀ p ∈ tl, h'.get? p.1 = some p.2 ∧ h.get? p.1 = none) : News h₀ L h' (tl ++ news) := fun p hp => by
  rcases List.mem_append.mp hp with hp | hp
  · exact newsNew F N (ht p hp).1 (ht p hp).2 p (.head _)
  · exact N p hp

theorem neN {h₀ h : Heap} {L a b : Addr} {news : List (Addr × Obj)} {o o' : Obj} (N : News h₀ L h news) (hp : (a, o) ∈ news) (hq : (b, o') ∈ news) (hk : kd o ≠ kd o') : a ≠ b := fun e => by
  have z1 := (N _ hp).1
  have z2 := (N _ hq).1
  dsimp only at z1 z2
  rw [e, z2] at z1
  exact hk (congrArg kd (Option.some.inj z1)).symm
theorem kd_cell {o : Obj} {v : Option Value} (h : o.data = .cell v) : kd o = 1 := by unfold kd; rw [h]
theorem ctFacts : ∀ i : Fin 7, 2 ≤ (ctOf (i.val : Int)).length ∧ (ctOf (i.val : Int)).length ≤ 4 ∧ 4 ≤ (ctOf (i.val : Int)).sum ∧ (ctOf (i.val : Int)).sum ≤ 8 ∧ (∀ c ∈ ctOf (i.val : Int), 1 ≤ c ∧ c ≤ 6) := by decide +kernel
theorem ctF {x : Int} : 2 ≤ (ctOf (x.fmod 7)).length ∧ (ctOf (x.fmod 7)).length ≤ 4 ∧ 4 ≤ (ctOf (x.fmod 7)).sum ∧ (ctOf (x.fmod 7)).sum ≤ 8 ∧ (∀ c ∈ ctOf (x.fmod 7), 1 ≤ c ∧ c ≤ 6) := by
  have h1 := Int.fmod_nonneg_of_pos x (show (0 : Int) < 7 by decide)
  have h2 := Int.fmod_lt_of_pos x (show (0 : Int) < 7 by decide)
  have e : x.fmod 7 = (((⟨(x.fmod 7).toNat, by omega⟩ : Fin 7).val : Nat) : Int) := by show _ = (((x.fmod 7).toNat : Nat) : Int); omega
  rw [e]
  exact ctFacts _
theorem belowL_snoc (l : List Int) (m : Int) : belowL (l ++ [m]) = belowL l ++ rangeKs 1 m.toNat := by
  unfold belowL; rw [List.flatMap_append]; simp
theorem rangeKs_succ (a : Int) (k : Nat) : rangeKs a (k + 1) = rangeKs a k ++ [a + (k : Int)] := by
  unfold rangeKs; rw [List.range_succ, List.map_append]; rfl
theorem self_tup {w : World} {A : Around} {s : Shared} {I : Addr} {l : Addr} {k : Nat} {o : Obj} (ho : s.heap.get? I = some o) (hc : o.cls = .type "tuple_iterator" ∧ o.data = .fields #[.ref l, .int (k : Int) 0]) (E : Value → Shared → Prop) :
    wpAny (model prog w) A (pyIter (.ref I)) (fun it' s' => it' = .ref I ∧ s' = s) E s := wpAny_pyIter_tupleiter ⟨o, ho, hc.1, hc.2⟩ ⟨rfl, rfl⟩
theorem self_range {w : World} {A : Around} {s : Shared} {I : Addr} {o : Obj} {x l : Int} (ho : s.heap.get? I = some o) (hc : o = itR x l) (E : Value → Shared → Prop) :
    wpAny (model prog w) A (pyIter (.ref I)) (fun it' s' => it' = .ref I ∧ s' = s) E s := by
  subst hc
  exact wpAny_pyIter_rangeiter ho ⟨rfl, rfl⟩
theorem belowL_take_le {cr : List Int} (k : Nat) {m : Int} (h : cr[k]? = some m) (hp : ∀ c ∈ cr, 1 ≤ c) : ((belowL (cr.take k)).length : Int) + m ≤ cr.sum := by
  induction cr generalizing k with
  | nil => simp at h
  | cons c cr ih =>
    have hc := hp c (.head _)
    have hs : 0 ≤ cr.sum := by
      clear ih h
      induction cr with
      | nil => decide
      | cons d cr ih2 =>
        have z := ih2 (fun x hx => hp x (by
          rcases List.mem_cons.mp hx with rfl | hx
          · exact .head _
          · exact .tail _ (.tail _ hx)))
        have z2 := hp d (.tail _ (.head _))
        rw [List.sum_cons]; omega
    cases k with
    | zero =>
      simp at h; subst h
      rw [List.sum_cons]
      show ((0 : Nat) : Int) + c ≤ _
      omega
    | succ k =>
      have z := ih k (by simpa using h) fun x hx => hp x (.tail _ hx)
      rw [List.sum_cons, List.take_succ_cons]
      have e : belowL (c :: cr.take k) = rangeKs 1 c.toNat ++ belowL (cr.take k) := by unfold belowL; rw [List.flatMap_cons]
      rw [e, List.length_append, rangeKs_length]
      omega
theorem sum_nonneg : ∀ {l : List Int}, (∀ c ∈ l, 0 ≤ c) → 0 ≤ l.sum
  | [], _ => by decide
  | c :: l, h => by
    have z1 := h c (.head _)
    have z2 := sum_nonneg (l := l) fun x hx => h x (.tail _ hx)
    rw [List.sum_cons]; omega
theorem fd_ne {st r : Int} (h : 1 ≤ r ∧ r ≤ st) : st.fdiv r ≠ 0 ∧ (r.natAbs < 1073741824 ∨ ¬ r.natAbs < 1073741824) := by
  refine ⟨?_, Classical.em _⟩
  rw [Int.fdiv_eq_ediv_of_nonneg _ (by omega)]
  have := Int.le_ediv_of_mul_le (show 0 < r by omega) (show 1 * r ≤ st by omega)
  omega
theorem law_fn (w : World) (a : Addr) (vs : List Value) (ns : List Int) (hn : ns.length ≤ 63) :
    FnT w 203 [.ref a] 150 1500 TT (fun h => h.IsList a vs.toArray ∧ IntsAre vs ns) (fun _ v _ => v = .bool true) := by
  intro ts dp un fr gd s R hT hts g hd hu hpre hret
  refine' enterHC (binds := [(Str.ofString "script", .ref a)]) ts g hts ?k6 ?kd ?k7 ?k8 ?k9 ?kB ?kD ?_ ?c2 ?c3 ?c4
  (case k6 => exact of_hideAll _ (fn_at g (by k_is)))
  (case kd => with_unfolding_all exact rfl)
  (case k7 => exact (codeRec_of g.k (by k_is)).keeps fun b o e => of_hideAll _ e)
  (case k8 => exact Nat.lt_of_le_of_lt (Nat.le_add_right _ _) hd)
  (case k9 => exact BindsTo.of_eq rfl)
  (case kB => exact rfl); (case kD => decide +kernel); (case c2 => exact rfl); (case c3 => exact rfl); (case c4 => exact rfl)
  intro L' h' tk' cells' vw lo mean mg mb F N Y' l0 X' T'
  k_cells Y'
  (try simp only [List.cons_append, List.nil_append] at N)
  iterate 9 (first | (k_unfold; (try dsimp only)) | walk1 | (dsimp only; walk1))
  obtain ⟨hl, hI⟩ := hpre
  have haT : a ∉ ts.map (·.1) := fun hm => by
    obtain ⟨q, hq, e⟩ := List.mem_map.mp hm
    obtain ⟨o, ho, _, n, hd'⟩ := hl
    have z1 := hts q hq
    rw [e, ho] at z1
    have z3 := isF_TT hT q hq
    rw [← Option.some.inj z1] at z3
    unfold isF at z3
    rw [hd'] at z3
    cases z3
  have hl0 : (hideAll s.heap (ts.map (·.1))).IsList a vs.toArray := by
    obtain ⟨o, ho, r⟩ := hl
    exact ⟨o, hideAll_get _ ho haT, r⟩
  rename Fr _ _ _ _ => F
  rename News _ _ _ _ => N
  rename_i c1 c2 d1 d2
  replace d1 := d1.trans (show _ = Data.cell none by kernel_rfl)
  replace d2 := d2.trans (show _ = Data.cell none by kernel_rfl)
  refine (totals_fn w a vs ns hn).use g F N rfl ?_ ?_ ⟨hl0.at fun o e => F.keep _ _ e, hI⟩ ?_
  · show dp + 1 + _ < _; first | exact ltD hd (by decide) | omega
  · show un + 3 + _ < _; first | exact ltU hu (by decide) | omega
  rintro v hh1 tk1 k1 F1 N1 ⟨tot, ⟨Dt, tv, te, rfl, hD0, hD1, hti⟩, htl, htb⟩
  have N2 := newsNew F N1 hD1 hD0
  clear F N N1
  obtain ⟨x0, x1, x2, x3, rfl⟩ : ∃ x0 x1 x2 x3, tot = [x0, x1, x2, x3] := by
    match tot, htl with
    | [x0, x1, x2, x3], _ => exact ⟨_, _, _, _, rfl⟩
  obtain ⟨s0, s1, s2, s3, rfl⟩ : ∃ s0 s1 s2 s3, tv = [.int x0 s0, .int x1 s1, .int x2 s2, .int x3 s3] := by
    cases hti with | cons _ s0 r => cases r with | cons _ s1 r => cases r with | cons _ s2 r => cases r with | cons _ s3 r => cases r; exact ⟨_, _, _, _, rfl⟩
  have hx0 := htb x0 (.head _)
  have hx1 := htb x1 (.tail _ (.head _))
  have hx2 := htb x2 (.tail _ (.tail _ (.head _)))
  have hx3 := htb x3 (.tail _ (.tail _ (.tail _ (.head _))))
  clear htb htl hti hD0 hD1 k1
  iterate 14 (first | (k_unfold; (try dsimp only)) | walk1 | (dsimp only; walk1))
  rename Fr _ _ _ _ => F
  rename News _ _ _ _ => N
  refine (content_fn w x0 _ hx0).use g F N rfl ?_ ?_ trivial ?_
  · show dp + 1 + _ < _; first | exact ltD hd (by decide) | omega
  · show un + 3 + _ < _; first | exact ltU hu (by decide) | omega
  rintro v hh2 tk2 k2 F3 N3 ⟨cv, ⟨Dc, rfl, hD0, hD1⟩, hcv⟩
  have N4 := newsNew F N3 hD1 hD0
  clear F N N3 hD0 hD1 k2
  iterate 10 (first | (k_unfold; (try dsimp only)) | walk1 | (dsimp only; walk1))
  rename Fr _ _ _ _ => F
  rename News _ _ _ _ => N
  obtain ⟨ct1, ct2, ct3, ct4, ct5⟩ := ctF (x := x0)
  refine ktm_sumK (vs := cv) rfl F N (.head _) hcv fun hh3 tk3 t3 F5 N5 => ?_
  clear F N
  obtain ⟨n, hn0⟩ : ∃ n : Nat, (ctOf (x0.fmod 7)).sum = (n : Int) := ⟨(ctOf (x0.fmod 7)).sum.toNat, by omega⟩
  rw [hn0]
  have hn48 : 4 ≤ n ∧ n ≤ 8 := by omega
  generalize hct : ctOf (x0.fmod 7) = ct at *
  obtain ⟨c0, cr, rfl⟩ : ∃ c0 cr, ct = c0 :: cr := by
    match ct, ct1 with
    | c0 :: cr, _ => exact ⟨c0, cr, rfl⟩
  obtain ⟨ctk, cvr, rfl, hcr⟩ : ∃ ctk cvr, cv = .int c0 ctk :: cvr ∧ IntsAre cvr cr := by
    cases hcv with | cons _ tt r => exact ⟨_, _, rfl, r⟩
  iterate 29 (first | (k_unfold; (try dsimp only)) | walk1 | (dsimp only; walk1))
  rename Fr _ _ _ _ => F
  rename News _ _ _ _ => N
  refine (divisor_fn w n x1 _ _ hn48 hx1).use g F N rfl ?_ ?_ trivial ?_
  · show dp + 1 + _ < _; first | exact ltD hd (by decide) | omega
  · show un + 3 + _ < _; first | exact ltU hu (by decide) | omega
  rintro v hh4 tk4 k4 F6 N6 ⟨t6, rfl⟩
  clear F N k4
  dsimp only
  have hs1 : ∀ p ∈ ts, p.1 ≠ L' + 1 := fun p hp => Nat.ne_of_lt (Nat.lt_succ_of_lt (l0 p hp))
  have hs2 : ∀ p ∈ ts, p.1 ≠ L' + 1 + 1 := fun p hp => Nat.ne_of_lt (Nat.lt_succ_of_lt (Nat.lt_succ_of_lt (l0 p hp)))
  have e1 := kd_cell d1
  have e2 := kd_cell d2
  refine storeX_C (c := L' + 1) F6 N6 rfl (.tail (neN N6 (.head _) (.tail _ (.tail _ (.tail _ (.head _)))) (by rw [e2]; exact (by decide : (0 : Nat) ≠ 1))) (.tail (neN N6 (.tail _ (.head _)) (.tail _ (.tail _ (.tail _ (.head _)))) (by rw [e2]; exact (by decide : (0 : Nat) ≠ 1))) (.tail (Nat.ne_of_gt (Nat.lt_succ_self _)) (.head hs1)))) d2 ?_ (by kernel_rfl) (by kernel_rfl)
  clear F6 N6 d2 e2
  intro hh5 c3 F7 N7 d3
  iterate 24 (first | (k_unfold; (try dsimp only)) | walk1 | (dsimp only; walk1))
  rename Fr _ _ _ _ => F
  rename News _ _ _ _ => N
  refine (kinds_fn w Dc _ (c0 :: cr) x2 x3 _ _ hx2 hx3 ⟨ct1, ct2⟩).use g F N rfl ?_ ?_ ⟨(N (Dc, tupO _) (.head _)).1, hcv⟩ ?_
  · show dp + 1 + _ < _; first | exact ltD hd (by decide) | omega
  · show un + 3 + _ < _; first | exact ltU hu (by decide) | omega
  rintro v hh6 tk6 k6 F8 N8 ⟨kinds, ⟨Dk, kvs, ke, tlk, rfl, hk0, hk1, hkT, hkf⟩, hkS, hkP⟩
  obtain ⟨tlk', hkT', hks, hkd⟩ := hkT.prune
  have N9 := newsAll F N8 (tl := (Dk, W.listOf kvs.toArray ke) :: tlk') (by
    intro p hp
    rcases List.mem_cons.mp hp with rfl | hp
    · exact ⟨hk1, hk0⟩
    · exact hkf p (hks p hp))
  clear F N N8 hkT hkf hk0 hk1 k6 hks tlk
  have hkl : kinds.length = (c0 :: cr).length := by rw [← List.length_map (f := fun x : Int × Int => x.2), hkP.length_eq]
  obtain ⟨wd, hwd0⟩ : ∃ wd : Nat, 5 + x1.fmod 4 = (wd : Int) := ⟨(5 + x1.fmod 4).toNat, by
    have := Int.fmod_nonneg_of_pos x1 (show (0 : Int) < 4 by decide); omega⟩
  have hwd58 : 5 ≤ wd ∧ wd ≤ 8 := by
    have := Int.fmod_nonneg_of_pos x1 (show (0 : Int) < 4 by decide)
    have := Int.fmod_lt_of_pos x1 (show (0 : Int) < 4 by decide)
    omega
  obtain ⟨A, B, q, sh, st, hst, PF⟩ := plain_all x0 x1 hct hn0 ⟨ct1, ct2⟩ hkS hkP hwd0
  rw [hst] at d3
  iterate 4 (first | (k_unfold; (try dsimp only)) | walk1 | (dsimp only; walk1))
  rename Fr _ _ _ _ => F
  rename News _ _ _ _ => N
  refine (words_fn w Dk kvs kinds n _ hn48.2 (by omega) PF.len).use g F N rfl ?_ ?_ ⟨⟨_, (N (Dk, W.listOf kvs.toArray ke) (.head _)).1, rfl, _, rfl⟩, hkT'.mono fun b us hb => (N _ (.tail _ (List.mem_append_left _ hb))).1⟩ ?_
  · show dp + 1 + _ < _; first | exact ltD hd (by decide) | omega
  · show un + 3 + _ < _; first | exact ltU hu (by decide) | omega
  rintro v hh7 tk7 k7 F10 N10 ⟨Dw, wv, we, tlw, rfl, hw0, hw1, hwT, hwf⟩
  obtain ⟨tlw', hwT', hws, hwd⟩ := hwT.prune
  have N11 := newsAll F N10 (tl := (Dw, W.listOf wv.toArray we) :: tlw') (by
    intro p hp
    rcases List.mem_cons.mp hp with rfl | hp
    · exact ⟨hw1, hw0⟩
    · exact hwf p (hws p hp))
  have N12 := newsSub N11 (b := (Dw, W.listOf wv.toArray we) :: (Dc, tupO (.int c0 ctk :: cvr)) :: (L' + 1 + 1, c1) :: (L' + 1, c3) :: (tlw' ++ ts)) (by
    intro p hp
    simp only [List.mem_cons, List.mem_append] at hp ⊢
    rcases hp with hp | hp | hp | hp | hp | hp <;> simp [hp])
  clear F N N10 N11 hwT hwf hw0 hw1 k7 hws tlw
  iterate 30 (first | (k_unfold; (try dsimp only)) | walk1 | (dsimp only; walk1))
  rename Fr _ _ _ _ => F
  rename News _ _ _ _ => N
  rename IsRange _ _ _ _ _ _ _ _ => hr
  have hc0 : 1 ≤ c0 ∧ c0 ≤ n := by
    have z1 := (ct5 c0 (.head _)).1
    have z2 : 0 ≤ cr.sum := sum_nonneg fun c hc => Int.le_trans (by decide) (ct5 c (.tail _ hc)).1
    rw [List.sum_cons] at hn0
    omega
  have hwe : (5 + ([x0, x1, x2, x3].getD (Int.toNat 1) 0).fmod 4) = (wd : Int) := hwd0
  rw [hwe] at F ⊢
  have hce : (1 + (c0 :: cr).getD (Int.toNat 0) 0) = 1 + c0 := rfl
  rw [hce] at hr
  clear hwe hce
  refine (product_range w _ (1 + c0) (n + 1) wd _ _ _ _ (by omega) (by omega) (by omega) (by omega) (by omega)).use g F N rfl ?_ ?_ hr ?_
  · show dp + 1 + _ < _; first | exact ltD hd (by decide) | omega
  · show un + 3 + _ < _; first | exact ltU hu (by decide) | omega
  rintro v hh8 tk8 k8 F13 N13 ⟨t8, rfl⟩
  have eA : ((n : Int) + 1 - (1 + c0)).toNat = n - c0.toNat := by omega
  rw [eA]
  clear F N hr k8 eA
  iterate 8 (first | (k_unfold; (try dsimp only)) | walk1 | (dsimp only; walk1))
  rename Fr _ _ _ _ => F
  rename News _ _ _ _ => N
  refine eval_cmp2 F rfl (by decide) (by rfl) (by decide) ?_
  iterate 7 (first | (k_unfold; (try dsimp only)) | walk1 | (dsimp only; walk1))
  rename Fr _ _ _ _ => F
  rename News _ _ _ _ => N
  refine slice_from (xs := .int c0 ctk :: cvr) (a := 1) F N (N _ (.tail _ (.head _))).1 (Nat.le_refl _) (by rw [List.length_cons]; omega) (by have z := hcr.length; rw [List.length_cons] at ct2 ⊢; omega) (fun T1 hh9 F9 N9 l9 => ?_) (by with_unfolding_all rfl)
  rw [show (Value.int c0 ctk :: cvr).drop 1 = cvr from rfl] at N9
  clear F N
  skip
  rename Fr _ _ _ _ => F
  rename News _ _ _ _ => N
  refine iterTuple (items := cvr.toArray) F N ⟨_, (N _ (.head _)).1, rfl, _, rfl⟩ ?_
  intro I2 o2 h₂ ho2 hI2 F₂ N₂
  clear F N
  refine ⟨_, F₂, N₂, ?_⟩
  intro C oC mC D h₃ tk₃ hC F₃ N₃ lD lC
  have hIC : I2 ≠ C := Nat.ne_of_lt (Nat.lt_trans (lD _ (.head _)) lC)
  have hID : I2 ≠ D := Nat.ne_of_lt (lD _ (.head _))
  have hDC : D ≠ C := Nat.ne_of_lt lC
  generalize hbase : (T1, tupO cvr) :: _ = base at N₃
  have offb : ∀ p ∈ base, p.1 ≠ C ∧ p.1 ≠ D ∧ p.1 ≠ I2 := by
    rw [← hbase]
    exact fun p hp => ⟨Nat.ne_of_lt (Nat.lt_trans (lD p (.tail _ hp)) lC), Nat.ne_of_lt (lD p (.tail _ hp)), Nat.ne_of_lt (hI2 p hp)⟩
  have hbT : (T1, tupO cvr) ∈ base := by rw [← hbase]; exact .head _
  clear F₂ N₂ lD lC hI2
  refine startC0 (self_tup (N₃ _ (.tail _ (.tail _ (.head _)))).1 ho2) ?_
  refine loopC0 (Iter.tuple (l := T1) (items := cvr.toArray) rfl) (fun k' nx => ∃ oC mC ys, nx = (C, oC) :: (D, LCg.lst ys) :: base ∧ LCg.NsObj oC mC ∧ IntsAre ys (belowL (cr.take k')))
    F₃ ho2 (newsSub N₃ (b := (I2, o2) :: (C, oC) :: (D, LCg.lst []) :: base) ?_) ?_ ⟨oC, mC, [], rfl, hC, .nil⟩ (by intro _; rfl) ?_ ?_ ?_
  · intro p hp
    simp only [List.mem_cons] at hp ⊢
    rcases hp with hp | hp | hp | hp <;> simp [hp]
  · intro p hp
    rcases List.mem_cons.mp hp with rfl | hp
    · exact hIC.symm
    · rcases List.mem_cons.mp hp with rfl | hp
      · exact hID.symm
      · exact (offb p hp).2.2
  · rintro k' nx h ⟨oC, mC, ys, rfl, -⟩ F N
    exact ⟨_, (N _ (.tail _ (.tail _ hbT))).1, rfl, _, rfl⟩
  · rintro k' v nx h₄ tk₄ o₄ hk' hv hio₂ ⟨oC, mC, ys, rfl, hC, hT'⟩ hoff₂ F₄ N₄
    clear F₃ N₃
    obtain ⟨mm, tmm, rfl, hmm⟩ := hcr.at k' v (by simpa using hv)
    have hmb := ct5 mm (.tail _ (List.mem_of_getElem? hmm))
    refine assignC rfl rfl F₄ (newsSub N₄ (b := (C, oC) :: (I2, o₄) :: (D, LCg.lst ys) :: base) ?_) hC ?_ fun h₅ oC₅ tk₅ hC₅ F₅ N₅ => ?_
    · intro p hp
      simp only [List.mem_cons] at hp ⊢
      rcases hp with hp | hp | hp | hp <;> simp [hp]
    · intro p hp
      rcases List.mem_cons.mp hp with rfl | hp
      · exact hIC
      · rcases List.mem_cons.mp hp with rfl | hp
        · exact hDC
        · exact (offb p hp).1
    clear F₄ N₄
    have em : (fun z => if z = Str.ofString "most" then some (Value.int mm tmm) else mC z) (Str.ofString "most") = some (.int mm tmm) := rfl
    generalize (fun z => if z = Str.ofString "most" then some (Value.int mm tmm) else mC z) = m5 at *
    iterate 12 (first | (k_unfold; (try dsimp only)) | walk1 | (dsimp only; walk1))
    rename Fr _ _ _ _ => F
    rename News _ _ _ _ => N
    rename IsRange _ _ _ _ _ _ _ _ => hr
    have emm : (mm + 1 - 1).toNat = mm.toNat := by omega
    refine iterRange (n := mm.toNat) F N hr (small_one (by omega) (by omega) (by omega) (by omega)) ((rangeSize_nat 1 (mm + 1)).trans (congrArg Nat.cast emm)) ?_
    intro I3 o3 h₆ ho3 hI3 F₆ N₆
    refine startC1 (self_range (N₆ _ (.head _)).1 ho3) ?_
    have hI3' : ∀ p ∈ (C, oC₅) :: (I2, o₄) :: (D, LCg.lst ys) :: base, p.1 ≠ I3 := fun p hp => Nat.ne_of_lt (hI3 p hp)
    clear hI3 F N hr emm
    refine loopC1 (Iter.range rfl 1 mm.toNat) (fun k'' nx => ∃ oC mC ys, nx = (C, oC) :: (D, LCg.lst ys) :: (I2, o₄) :: base ∧ LCg.NsObj oC mC ∧
        IntsAre ys (belowL (cr.take k') ++ rangeKs 1 k'')) F₆ ho3 (newsSub N₆ (b := (I3, o3) :: (C, oC₅) :: (D, LCg.lst ys) :: (I2, o₄) :: base) ?_) ?_ ⟨oC₅, m5, ys, rfl, hC₅, ?_⟩ (by intros; trivial) ?_ ?_
    · intro p hp
      simp only [List.mem_cons] at hp ⊢
      rcases hp with hp | hp | hp | hp | hp <;> simp [hp]
    · intro p hp
      refine hI3' p ?_
      simp only [List.mem_cons] at hp ⊢
      rcases hp with hp | hp | hp | hp <;> simp [hp]
    · rw [show rangeKs 1 0 = [] from rfl, List.append_nil]; exact hT'
    · rintro k'' v nx h₇ tk₇ o₇ hk'' hv hio₃ ⟨oC, mC, ys, rfl, hC, hT'⟩ hoff₃ F₇ N₇
      clear F₆ N₆ hC₅ em m5
      obtain ⟨tj, rfl⟩ := hv
      refine assignC rfl rfl F₇ (newsSub N₇ (b := (C, oC) :: (I3, o₇) :: (D, LCg.lst ys) :: (I2, o₄) :: base) ?_) hC ?_ fun h₈ oC₈ tk₈ hC₈ F₈ N₈ => ?_
      · intro p hp
        simp only [List.mem_cons] at hp ⊢
        rcases hp with hp | hp | hp | hp | hp <;> simp [hp]
      · intro q hq
        simp only [List.mem_cons] at hq
        rcases hq with rfl | rfl | rfl | hq
        · exact (hoff₃ (C, oC) (.head _)).symm
        · exact hDC
        · exact hIC
        · exact (offb q hq).1
      clear F₇ N₇
      have ej : (fun z => if z = Str.ofString "j" then some (Value.int (1 + (k'' : Int)) tj) else mC z) (Str.ofString "j") = some (.int (1 + (k'' : Int)) tj) := rfl
      generalize (fun z => if z = Str.ofString "j" then some (Value.int (1 + (k'' : Int)) tj) else mC z) = m8 at *
      refine wpAny_pure ?_
      rw [if_pos rfl]
      (first | (k_unfold; (try dsimp only)) | walk1 | (dsimp only; walk1))
      rename Fr _ _ _ _ => F
      rename News _ _ _ _ => N
      have z1 := belowL_take_le k' hmm fun c hc => (ct5 c (.tail _ hc)).1
      have z2 := (ct5 c0 (.head _)).1
      refine appendD F (newsSub N (b := (D, LCg.lst ys) :: (C, oC₈) :: (I3, o₇) :: (I2, o₄) :: base) ?_) ?_ ?_ fun h9 F9 N9 => ?_
      · intro p hp
        simp only [List.mem_cons] at hp ⊢
        rcases hp with hp | hp | hp | hp | hp <;> simp [hp]
      · intro q hq
        simp only [List.mem_cons] at hq
        rcases hq with rfl | rfl | rfl | hq
        · exact hDC.symm
        · exact (hoff₃ (D, LCg.lst ys) (.tail _ (.head _))).symm
        · exact hID
        · exact (offb q hq).2.1
      · rw [hT'.length, List.length_append, rangeKs_length]
        rw [List.sum_cons] at ct4
        omega
      refine ⟨h9, _, (C, oC₈) :: (D, LCg.lst (ys ++ [.int (1 + (k'' : Int)) tj])) :: (I2, o₄) :: base, rfl, F9, newsSub N9 ?_, ?_, oC₈, m8, _, rfl, hC₈, ?_⟩
      · intro p hp
        simp only [List.mem_cons] at hp ⊢
        rcases hp with hp | hp | hp | hp | hp <;> simp [hp]
      · intro p hp
        simp only [List.mem_cons] at hp
        rcases hp with rfl | rfl | hp
        · exact hoff₃ (C, oC) (.head _)
        · exact hoff₃ (D, LCg.lst ys) (.tail _ (.head _))
        · exact hoff₃ p (.tail _ (.tail _ (List.mem_cons.mpr hp)))
      · rw [rangeKs_succ, ← List.append_assoc]
        exact hT'.append (.cons _ _ .nil)
    · rintro nx h₇ tk₇ ⟨oC, mC, ys, rfl, hC, hT'⟩ F₇ N₇
      rw [← belowL_snoc, ← take_succ_of hmm] at hT'
      refine ⟨h₇, tk₇, (C, oC) :: (D, LCg.lst ys) :: base, rfl, F₇, newsSub N₇ ?_, ?_, oC, mC, ys, rfl, hC, hT'⟩
      · intro p hp
        simp only [List.mem_cons] at hp ⊢
        rcases hp with hp | hp | hp | hp <;> simp [hp]
      · intro p hp
        simp only [List.mem_cons] at hp
        rcases hp with rfl | rfl | hp
        · exact hIC.symm
        · exact hID.symm
        · exact (offb p hp).2.2
  · rintro nx h₄ tk₄ ⟨oC, mC, ys, rfl, hC, hT'⟩ F₄ N₄
    have hsz : cvr.toArray.size = cr.length := by rw [List.size_toArray, hcr.length]
    rw [hsz, List.take_length] at hT'
    refine ⟨h₄, tk₄, oC, mC, _, rfl, hC, F₄, N₄, ?_, ?_⟩
    · intro p hp
      rcases List.mem_cons.mp hp with rfl | hp
      · exact hDC
      · exact (offb p hp).1
    clear F₃ N₃ F₄ N₄ hC
    intro h'' tk'' F'' N''
    rw [← hbase] at N''
    iterate 4 (first | (k_unfold; (try dsimp only)) | walk1 | (dsimp only; walk1))
    rename Fr _ _ _ _ => F
    rename News _ _ _ _ => N
    obtain ⟨bl1, bl2⟩ := below_ok hct
    refine (product_list w D ys (belowL cr) wd _ (by omega) (by omega) bl1 bl2).use g F N rfl ?_ ?_ ⟨⟨_, (N _ (.head _)).1, rfl, _, rfl⟩, hT'⟩ ?_
    · show dp + 1 + _ < _; first | exact ltD hd (by decide) | omega
    · show un + 3 + _ < _; first | exact ltU hu (by decide) | omega
    rintro v hh10 tk10 k10 F15 N15 ⟨t10, rfl⟩
    rw [PF.bbb]
    clear F N k10 hT' hbase offb hbT bl1 bl2
    iterate 13 (first | (k_unfold; (try dsimp only)) | walk1 | (dsimp only; walk1))
    rename Fr _ _ _ _ => F
    rename News _ _ _ _ => N
    rw [PF.aa] at F ⊢
    obtain ⟨mF, F, q1, q2, q3, q4⟩ : ∃ mF, Fr (hideAll s.heap (List.map (fun x => x.fst) ts)) L' _ mF ∧ mF (Str.ofString "content") = some (.ref Dc) ∧ mF (Str.ofString "words") = some (.ref Dw) ∧ (∃ tn, mF (Str.ofString "size") = some (.int n tn)) ∧ (∃ tw, mF (Str.ofString "width") = some (.int wd tw)) := ⟨_, F, rfl, rfl, ⟨_, rfl⟩, ⟨_, rfl⟩⟩
    obtain ⟨tn, q3⟩ := q3
    obtain ⟨tw, q4⟩ := q4
    have F' := frKnow F [(Str.ofString "content", _), (Str.ofString "words", _), (Str.ofString "size", _), (Str.ofString "width", _)] ⟨q1, q2, q3, q4, trivial⟩
    clear F
    rename Fr _ _ _ _ => F
    have hcells : ∀ p ∈ ((Dw, W.listOf wv.toArray we) :: (L' + 1 + 1, c1) :: (L' + 1, c3) :: tlw'), isF p.2 = false := by
      intro p hp
      simp only [List.mem_cons] at hp
      rcases hp with rfl | rfl | rfl | hp
      · rfl
      · show isF c1 = false
        unfold isF; rw [d1]
      · show isF c3 = false
        unfold isF; rw [d3]
      · exact kd0 (hwd p hp)
    have N16 := newsSub N (b := ((Dw, W.listOf wv.toArray we) :: (L' + 1 + 1, c1) :: (L' + 1, c3) :: tlw') ++ ts) (by
      intro p hp
      simp only [List.mem_cons, List.mem_append] at hp ⊢
      rcases hp with (hp | hp | hp | hp) | hp <;> simp [hp])
    clear N
    refine (dmp_fn w A B _ _ PF.b1 PF.bb PF.ba).use g F N16 (offK N16 hcells (isF_TT hT)) hT rfl ?_ ?_ trivial ?_
    · show dp + 1 + _ < _; first | exact ltD hd (by decide) | omega
    · show un + 3 + _ < _; first | exact ltU hu (by decide) | omega
    rintro v hh11 tk11 ts1 hT1 F17 N17 o17 ⟨t11, t12, T2, rfl, hD0, hD1⟩
    rw [PF.qq, PF.rr] at hD1
    have N18 := newsNew F N17 hD1 hD0
    clear F N16 N17 o17 hD0 hD1
    iterate 21 (first | (k_unfold; (try dsimp only)) | walk1 | (dsimp only; walk1))
    rename Fr _ _ _ _ => F
    rename News _ _ _ _ => N
    refine (iseof_fn w 0 _).use g F N rfl ?_ ?_ trivial ?_
    · show dp + 1 + _ < _; first | exact ltD hd (by decide) | omega
    · show un + 3 + _ < _; first | exact ltU hu (by decide) | omega
    rintro v hh12 tk12 k12 F19 N19 rfl
    clear F N k12
    rw [show ((0 : Int) == 0) = true from rfl]
    iterate 13 (first | (k_unfold; (try dsimp only)) | walk1 | (dsimp only; walk1))
    rename Fr _ _ _ _ => F
    rename News _ _ _ _ => N
    obtain ⟨ta, tb, rfl, hTa, hTb, hab⟩ := hT1
    have N20 := newsSub N (b := (((Dw, W.listOf wv.toArray we) :: (L' + 1 + 1, c1) :: (L' + 1, c3) :: tlw') ++ tb) ++ ta) (by
      intro p hp
      simp only [List.mem_cons, List.mem_append] at hp ⊢
      rcases hp with ((hp | hp | hp | hp) | hp) | hp <;> simp [hp])
    clear N
    refine (i2d_fn w q wd _ _ (by omega) (by omega) PF.qc).use g F N20 (fun p hp => ?_) hTa rfl ?_ ?_ trivial ?_
    · rcases List.mem_append.mp hp with hp | hp
      · exact offK (rest := (Dw, W.listOf wv.toArray we) :: (L' + 1 + 1, c1) :: (L' + 1, c3) :: tlw') (newsSub N20 fun z hz => by
          rcases List.mem_append.mp hz with hz | hz
          · exact List.mem_append_left _ (List.mem_append_left _ hz)
          · exact List.mem_append_right _ hz) hcells (isF_T hTa) p hp
      · exact hab p hp
    · show dp + 1 + _ < _; first | exact ltD hd (by decide) | omega
    · show un + 3 + _ < _; first | exact ltU hu (by decide) | omega
    rintro v hh13 tk13 ta1 hTa1 F21 N21 o21 ⟨Dg, gv, ge, rfl, hD0, hD1, hgi⟩
    have N22 := newsNew F N21 hD1 hD0
    have hT2 : TT (ta1 ++ tb) := ⟨ta1, tb, rfl, hTa1, hTb, fun p hp => o21 p (List.mem_append_right _ hp)⟩
    clear F N20 N21 o21 hD0 hD1 hTa1 hTb hTa hab
    iterate 7 (first | (k_unfold; (try dsimp only)) | walk1 | (dsimp only; walk1))
    rename Fr _ _ _ _ => F
    rename News _ _ _ _ => N
    have hWl := wordsOf_len kinds n
    have hW1000 := PF.len n (Nat.le_refl _)
    refine (majors_fn w Dw wv (wordsOf kinds n) PF.pos PF.maj hW1000 (fun ws hws => by rw [hWl ws hws]; omega)).use g F N rfl ?_ ?_ ⟨⟨_, (N (Dw, W.listOf wv.toArray we) (.tail _ (.head _))).1, rfl, _, rfl⟩, hwT'.mono fun b us hb => (N (b, tupO us) (.tail _ (.tail _ (.tail _ (.tail _ (List.mem_append_left _ (List.mem_append_left _ hb))))))).1⟩ ?_
    · show dp + 1 + _ < _; first | exact ltD hd (by decide) | omega
    · show un + 3 + _ < _; first | exact ltU hu (by decide) | omega
    rintro v hh14 tk14 k14 F23 N23 ⟨Dm, mv, me, rfl, hD0, hD1, hmi⟩
    have N24 := newsNew F N23 hD1 hD0
    clear F N N23 k14 hD0 hD1
    skip
    rename Fr _ _ _ _ => F
    rename News _ _ _ _ => N
    refine ke_ne_ints ⟨_, (N (Dg, W.listOf gv.toArray ge) (.tail _ (.head _))).1, rfl, _, rfl⟩ ⟨_, (N (Dm, W.listOf mv.toArray me) (.head _)).1, rfl, _, rfl⟩ hgi hmi (by show un + 3 + 64 < _; omega) ?_
    rw [PF.dq, decide_eq_true rfl]
    have N25 := newsSub N (b := ((Dw, W.listOf wv.toArray we) :: (L' + 1 + 1, c1) :: (L' + 1, c3) :: tlw') ++ (ta1 ++ tb)) (by
      intro p hp
      simp only [List.mem_cons, List.mem_append] at hp ⊢
      rcases hp with (hp | hp | hp | hp) | hp | hp <;> simp [hp])
    clear N hgi hmi
    have st2 := PF.st2
    have stn := PF.stn
    iterate 16 (first | (k_unfold; (try dsimp only)) | walk1 | (dsimp only; walk1))
    refine floordiv_int (a := (n : Int)) (b := (st : Int)) (by omega) ?_ (Or.inl (PyProof.noPylong_small (by omega)))
    rw [PF.shh]
    iterate 2 (first | (k_unfold; (try dsimp only)) | walk1 | (dsimp only; walk1))
    rename Fr _ _ _ _ => F
    rename News _ _ _ _ => N
    refine (rings_fn w Dw wv (wordsOf kinds n) sh n _ hW1000 PF.sh1 PF.shn hn48.2 hWl PF.nx).use g F N rfl ?_ ?_ ⟨⟨_, (N (Dw, W.listOf wv.toArray we) (.head _)).1, rfl, _, rfl⟩, hwT'.mono fun b us hb => (N (b, tupO us) (.tail _ (.tail _ (.tail _ (List.mem_append_left _ hb))))).1⟩ ?_
    · show dp + 1 + _ < _; first | exact ltD hd (by decide) | omega
    · show un + 3 + _ < _; first | exact ltU hu (by decide) | omega
    rintro v hh15 tk15 k15 F26 N26 ⟨Dr, rv, re, rfl, hD0, hD1, hri⟩
    have N27 := newsNew F N26 hD1 hD0
    clear F N N26 k15 hD0 hD1
    dsimp only
    have N28 := newsSub N27 (b := (L' + 1 + 1, c1) :: (Dr, W.listOf rv.toArray re) :: (Dw, W.listOf wv.toArray we) :: (L' + 1, c3) :: (tlw' ++ (ta1 ++ tb))) (by
      intro p hp
      simp only [List.mem_cons, List.mem_append] at hp ⊢
      rcases hp with hp | hp | hp | hp | hp | hp | hp <;> simp [hp])
    refine storeX_C (c := L' + 1 + 1) F26 N28 rfl (.head fun p hp => ?_) d1 ?_ (by kernel_rfl) (by kernel_rfl)
    · rcases List.mem_cons.mp hp with rfl | hp'
      · exact neN N28 (.tail _ hp) (.head _) (by rw [e1]; exact (by decide : (0 : Nat) ≠ 1))
      rcases List.mem_cons.mp hp' with rfl | hp'
      · exact neN N28 (.tail _ hp) (.head _) (by rw [e1]; exact (by decide : (0 : Nat) ≠ 1))
      rcases List.mem_cons.mp hp' with rfl | hp'
      · exact Nat.ne_of_lt (Nat.lt_succ_self _)
      rcases List.mem_append.mp hp' with hp' | hp'
      · exact neN N28 (.tail _ hp) (.head _) (by rw [e1, hwd p hp']; decide)
      · exact neN N28 (.tail _ hp) (.head _) (by rw [e1, kd2 (isF_TT hT2 p hp')]; decide)
    clear F26 N27 N28
    intro hh16 c4 F29 N29 d4
    iterate 2 (first | (k_unfold; (try dsimp only)) | walk1 | (dsimp only; walk1))
    rename Fr _ _ _ _ => F
    refine assign_cmp1K (kn := Str.ofString "k") F rfl (by with_unfolding_all rfl) (by with_unfolding_all rfl) (fun n => rfl) (fun h => rfl) (by rfl) (by decide) (by rfl) (by rfl) ?_
    iterate 7 (first | (k_unfold; (try dsimp only)) | walk1 | (dsimp only; walk1))
    rename Fr _ _ _ _ => F
    rename News _ _ _ _ => N
    rename IsRange _ _ _ _ _ _ _ _ => hr
    refine iterRange (n := st) F N hr (small_one (by omega) (by omega) (by omega) (by omega)) (by have z := rangeSize_nat 0 (st : Int); simpa using z) ?_
    intro I2 o2 h₂ ho2 hI2 F₂ N₂
    clear F N hr
    refine ⟨_, F₂, N₂, ?_⟩
    intro C K oC oK D h₃ tk₃ hC hK F₃ N₃ lD lC lK
    have hIC : I2 ≠ C := Nat.ne_of_lt (Nat.lt_trans (lD _ (.head _)) lC)
    have hID : I2 ≠ D := Nat.ne_of_lt (lD _ (.head _))
    have hIK : I2 ≠ K := Nat.ne_of_lt (Nat.lt_trans (Nat.lt_trans (lD _ (.head _)) lC) lK)
    have hDC : D ≠ C := Nat.ne_of_lt lC
    have hCK : C ≠ K := Nat.ne_of_lt lK
    have hDK : D ≠ K := Nat.ne_of_lt (Nat.lt_trans lC lK)
    generalize hbase : (L' + 1 + 1, c4) :: _ = base at N₃
    have offb : ∀ p ∈ base, p.1 ≠ C ∧ p.1 ≠ D ∧ p.1 ≠ I2 ∧ p.1 ≠ K := by
      rw [← hbase]
      exact fun p hp => ⟨Nat.ne_of_lt (Nat.lt_trans (lD p (.tail _ hp)) lC), Nat.ne_of_lt (lD p (.tail _ hp)), Nat.ne_of_lt (hI2 p hp), Nat.ne_of_lt (Nat.lt_trans (Nat.lt_trans (lD p (.tail _ hp)) lC) lK)⟩
    have hbR : (L' + 1 + 1, c4) ∈ base := by rw [← hbase]; exact .head _
    have hbD : (Dr, W.listOf rv.toArray re) ∈ base := by rw [← hbase]; exact .tail _ (.head _)
    have hbS : (L' + 1, c3) ∈ base := by rw [← hbase]; exact .tail _ (.tail _ (.tail _ (.head _)))
    clear F₂ N₂ lD lC lK hI2
    refine startD (self_range (N₃ _ (.tail _ (.tail _ (.tail _ (.head _))))).1 ho2) ?_
    refine loopD (Iter.range rfl 0 st) (fun k nx => ∃ oC oK ys u, nx = (C, oC) :: (K, oK) :: (D, LCg.lst ys) :: base ∧ LCg.NsObj oC (fun _ => none) ∧ oK.data = .cell u ∧ IntsAre ys ((List.range k).map (dueAt (ringsOf (wordsOf kinds n) sh) st)))
      F₃ ho2 (newsSub N₃ (b := (I2, o2) :: (C, oC) :: (K, oK) :: (D, LCg.lst []) :: base) ?_) ?_ ⟨oC, oK, [], none, rfl, hC, hK, .nil⟩ (by intros; trivial) ?_ ?_
    · intro p hp
      simp only [List.mem_cons] at hp ⊢
      rcases hp with hp | hp | hp | hp | hp <;> simp [hp]
    · intro p hp
      simp only [List.mem_cons] at hp
      rcases hp with rfl | rfl | rfl | hp
      · exact hIC.symm
      · exact hIK.symm
      · exact hID.symm
      · exact (offb p hp).2.2.1
    · clear F₃ N₃ hC hK
      rintro k v nx h₄ tk₄ o₄ hk hv hio₂ ⟨oC, oK, ys, u, rfl, hC, hK, hT'⟩ hoff₂ F₄ N₄
      obtain ⟨tk0, rfl⟩ := hv
      rw [Int.zero_add]
      refine assignK rfl rfl rfl F₄ (newsSub N₄ (b := (K, oK) :: (C, oC) :: (I2, o₄) :: (D, LCg.lst ys) :: base) ?_) hK ?_ fun h₅ oK₅ hK₅ F₅ N₅ => ?_
      · intro p hp
        simp only [List.mem_cons] at hp ⊢
        rcases hp with hp | hp | hp | hp | hp <;> simp [hp]
      · intro p hp
        simp only [List.mem_cons] at hp
        rcases hp with rfl | rfl | rfl | hp
        · exact hCK
        · exact hIK
        · exact hDK
        · exact (offb p hp).2.2.2
      clear F₄ N₄
      refine wpAny_pure ?_
      rw [if_pos rfl]
      iterate 4 (first | (k_unfold; (try dsimp only)) | walk1 | (dsimp only; walk1))
      rename Fr _ _ _ _ => F
      rename News _ _ _ _ => N
      refine eval_cmp1 F rfl (by decide) (by rfl) (by decide) ?_
      refine lcf_cell N (c := L' + 1 + 1) (o := c4) rfl (.tail _ (.tail _ (.tail _ (.tail _ hbR)))) d4 ?_ rfl rfl
      refine iterList F N (l := Dr) ⟨_, (N _ (.tail _ (.tail _ (.tail _ (.tail _ hbD))))).1, rfl, _, rfl⟩ ?_
      intro I3 o3 h₆ ho3 hI3 F₆ N₆
      refine ⟨_, F₆, N₆, ?_⟩
      intro C2 oC2 mC2 D2 h₇ tk₇ hC2 F₇ N₇ lD lC
      have hIC2 : I3 ≠ C2 := Nat.ne_of_lt (Nat.lt_trans (lD _ (.head _)) lC)
      have hID2 : I3 ≠ D2 := Nat.ne_of_lt (lD _ (.head _))
      have hDC2 : D2 ≠ C2 := Nat.ne_of_lt lC
      generalize hbase2 : (K, oK₅) :: _ = base2 at N₇
      have offb2 : ∀ p ∈ base2, p.1 ≠ C2 ∧ p.1 ≠ D2 ∧ p.1 ≠ I3 := by
        rw [← hbase2]
        exact fun p hp => ⟨Nat.ne_of_lt (Nat.lt_trans (lD p (.tail _ hp)) lC), Nat.ne_of_lt (lD p (.tail _ hp)), Nat.ne_of_lt (hI3 p hp)⟩
      have hbK : (K, oK₅) ∈ base2 := by rw [← hbase2]; exact .head _
      have hbD2 : (Dr, W.listOf rv.toArray re) ∈ base2 := by rw [← hbase2]; exact .tail _ (.tail _ (.tail _ (.tail _ hbD)))
      have hbS2 : (L' + 1, c3) ∈ base2 := by rw [← hbase2]; exact .tail _ (.tail _ (.tail _ (.tail _ hbS)))
      clear F₆ N₆ F N lD lC hI3
      generalize hrs : ringsOf (wordsOf kinds n) sh = rs at *
      refine startD (self_list (N₇ _ (.tail _ (.tail _ (.head _)))).1 ho3) ?_
      refine loopD (Iter.list (l := Dr) (items := rv.toArray) rfl) (fun j nx => ∃ oC mC ys, nx = (C2, oC) :: (D2, LCg.lst ys) :: base2 ∧ LCg.NsObj oC mC ∧ IntsAre ys ((rs.take j).filter fun r => (k : Int).fmod ((st : Int).fdiv r) == 0))
        F₇ ho3 (newsSub N₇ (b := (I3, o3) :: (C2, oC2) :: (D2, LCg.lst []) :: base2) ?_) ?_ ⟨oC2, mC2, [], rfl, hC2, .nil⟩ ?_ ?_ ?_
      · intro p hp
        simp only [List.mem_cons] at hp ⊢
        rcases hp with hp | hp | hp | hp <;> simp [hp]
      · intro p hp
        simp only [List.mem_cons] at hp
        rcases hp with rfl | rfl | hp
        · exact hIC2.symm
        · exact hID2.symm
        · exact (offb2 p hp).2.2
      · rintro k' nx h ⟨oC, mC, ys, rfl, -⟩ F N
        exact ⟨_, (N _ (.tail _ (.tail _ hbD2))).1, rfl, _, rfl⟩
      · clear F₇ N₇ hC2
        rintro j v nx h₈ tk₈ o₈ hj hv hio₈ ⟨oC2, mC2, ys2, rfl, hC2, hT2'⟩ hoff₃ F₈ N₈
        obtain ⟨r, tr, rfl, hr⟩ := hri.at j v (by simpa using hv)
        have hrb := PF.rg
        rw [hrs] at hrb
        replace hrb := hrb r (List.mem_of_getElem? hr)
        refine assignC rfl rfl F₈ (newsSub N₈ (b := (C2, oC2) :: (I3, o₈) :: (D2, LCg.lst ys2) :: base2) ?_) hC2 ?_ fun h₉ oC₉ tk₉ hC₉ F₉ N₉ => ?_
        · intro p hp
          simp only [List.mem_cons] at hp ⊢
          rcases hp with hp | hp | hp | hp <;> simp [hp]
        · intro p hp
          simp only [List.mem_cons] at hp
          rcases hp with rfl | rfl | hp
          · exact hIC2
          · exact hDC2
          · exact (offb2 p hp).1
        clear F₈ N₈
        have er : (fun z => if z = Str.ofString "ring" then some (Value.int r tr) else mC2 z) (Str.ofString "ring") = some (.int r tr) := rfl
        generalize (fun z => if z = Str.ofString "ring" then some (Value.int r tr) else mC2 z) = m9 at *
        refine wpAny_tests_one ?_
        iterate 2 (first | (k_unfold; (try dsimp only)) | walk1 | (dsimp only; walk1))
        rename News _ _ _ _ => N
        refine lcf_cell N (c := K) (o := oK₅) rfl (.tail _ (.tail _ (.tail _ hbK))) hK₅ ?_ rfl rfl
        (first | (k_unfold; (try dsimp only)) | walk1 | (dsimp only; walk1))
        rename News _ _ _ _ => N
        refine lcf_cell N (c := L' + 1) (o := c3) rfl (.tail _ (.tail _ (.tail _ hbS2))) d3 ?_ rfl rfl
        (first | (k_unfold; (try dsimp only)) | walk1 | (dsimp only; walk1))
        refine floordiv_int (by omega) ?_ (Or.inl (PyProof.noPylong_small (by omega)))
        skip
        refine mod_int (fd_ne hrb).1 ?_
        (first | (k_unfold; (try dsimp only)) | walk1 | (dsimp only; walk1))
        (first | (k_unfold; (try dsimp only)) | walk1 | (dsimp only; walk1))
        (first | (k_unfold; (try dsimp only)) | walk1 | (dsimp only; walk1))
        (try dsimp only)
        rename Fr _ _ _ _ => F
        rename News _ _ _ _ => N
        have hl3 : rs.take (j + 1) = rs.take j ++ [r] := take_succ_of hr
        have offx : ∀ p ∈ (C2, oC₉) :: (D2, LCg.lst ys2) :: base2, p.1 ≠ I3 := fun p hp => by
          rcases List.mem_cons.mp hp with rfl | hp
          · exact hoff₃ (C2, oC2) (.head _)
          · exact hoff₃ _ (.tail _ hp)
        cases hb : ((k : Int).fmod ((st : Int).fdiv r) == 0) with
        | true =>
          rw [if_pos rfl]
          (first | (k_unfold; (try dsimp only)) | walk1 | (dsimp only; walk1))
          rename Fr _ _ _ _ => F
          rename News _ _ _ _ => N
          refine appendD F (newsSub N (b := (D2, LCg.lst ys2) :: (C2, oC₉) :: (I3, o₈) :: base2) ?_) ?_ ?_ fun h10 F10 N10 => ?_
          · intro p hp
            simp only [List.mem_cons] at hp ⊢
            rcases hp with hp | hp | hp | hp <;> simp [hp]
          · intro p hp
            simp only [List.mem_cons] at hp
            rcases hp with rfl | rfl | hp
            · exact hDC2.symm
            · exact hID2
            · exact (offb2 p hp).2.1
          · have z := PF.rl
            rw [hrs] at z
            rw [hT2'.length]
            exact Nat.le_trans (List.length_filter_le _ _) (Nat.le_trans (by rw [List.length_take]; exact Nat.min_le_right _ _) (Nat.le_trans z (by decide)))
          refine ⟨h10, _, (C2, oC₉) :: (D2, LCg.lst (ys2 ++ [.int r tr])) :: base2, rfl, F10, newsSub N10 ?_, ?_, oC₉, m9, _, rfl, hC₉, ?_⟩
          · intro p hp
            simp only [List.mem_cons] at hp ⊢
            rcases hp with hp | hp | hp | hp <;> simp [hp]
          · intro p hp
            rcases List.mem_cons.mp hp with rfl | hp
            · exact offx (C2, oC₉) (.head _)
            · rcases List.mem_cons.mp hp with rfl | hp
              · exact offx (D2, LCg.lst ys2) (.tail _ (.head _))
              · exact offx p (.tail _ (.tail _ hp))
          · rw [hl3, List.filter_append, List.filter_cons, hb, if_pos rfl]
            exact hT2'.append (.cons _ _ .nil)
        | false =>
          rw [if_neg (by decide)]
          refine ⟨_, _, (C2, oC₉) :: (D2, LCg.lst ys2) :: base2, rfl, F, newsSub N ?_, offx, oC₉, m9, ys2, rfl, hC₉, ?_⟩
          · intro p hp
            simp only [List.mem_cons] at hp ⊢
            rcases hp with hp | hp | hp | hp <;> simp [hp]
          · rw [hl3, List.filter_append, List.filter_cons, hb, if_neg (by decide), List.filter_nil, List.append_nil]
            exact hT2'
      · rintro nx h₈ tk₈ ⟨oC2, mC2, ys2, rfl, hC2, hT2'⟩ F₈ N₈
        have hsz : rv.toArray.size = rs.length := by rw [List.size_toArray, hri.length]
        rw [hsz, List.take_length] at hT2'
        refine ⟨h₈, tk₈, oC2, mC2, _, rfl, hC2, F₈, N₈, ?_, ?_⟩
        · intro p hp
          rcases List.mem_cons.mp hp with rfl | hp
          · exact hDC2
          · exact (offb2 p hp).1
        clear F₇ N₇ F₈ N₈ hC2
        intro h'' tk'' F'' N''
        rw [← hbase2] at N''
        (first | (k_unfold; (try dsimp only)) | walk1 | (dsimp only; walk1))
        rename Fr _ _ _ _ => F
        rename News _ _ _ _ => N
        have hkl1 := PF.rl
        rw [hrs] at hkl1
        have hy2 : ys2.length ≤ 1000 := by rw [hT2'.length]; exact Nat.le_trans (List.length_filter_le _ _) hkl1
        refine len_list (items := ys2.toArray) ⟨_, (N _ (.head _)).1, rfl, _, rfl⟩ (by rw [List.size_toArray]; omega) ?_
        rw [List.size_toArray, hT2'.length]
        have hdue : (((rs.filter fun r => (k : Int).fmod ((st : Int).fdiv r) == 0).length : Nat) : Int) = dueAt rs st k := by
          unfold dueAt; rw [List.countP_eq_length_filter]
        rw [hdue]
        skip
        rename Fr _ _ _ _ => F
        rename News _ _ _ _ => N
        refine appendD F (newsSub N (b := (D, LCg.lst ys) :: (C, oC) :: (K, oK₅) :: (I2, o₄) :: base) ?_) ?_ ?_ fun h10 F10 N10 => ?_
        · intro p hp
          simp only [List.mem_cons] at hp ⊢
          rcases hp with hp | hp | hp | hp | hp <;> simp [hp]
        · intro p hp
          simp only [List.mem_cons] at hp
          rcases hp with rfl | rfl | rfl | hp
          · exact hDC.symm
          · exact hDK.symm
          · exact hID
          · exact (offb p hp).2.1
        · rw [hT'.length, List.length_map, List.length_range]
          omega
        refine ⟨h10, _, (C, oC) :: (K, oK₅) :: (D, LCg.lst (ys ++ [.int (dueAt rs st k) (tk'' + 1)])) :: base, rfl, F10, newsSub N10 ?_, ?_, oC, oK₅, _, _, rfl, hC, hK₅, ?_⟩
        · intro p hp
          simp only [List.mem_cons] at hp ⊢
          rcases hp with hp | hp | hp | hp | hp
          · exact .inr (.inr (.inr (.inl hp)))
          · exact .inr (.inl hp)
          · exact .inr (.inr (.inl hp))
          · exact .inl hp
          · exact .inr (.inr (.inr (.inr hp)))
        · intro p hp
          simp only [List.mem_cons] at hp
          rcases hp with rfl | rfl | rfl | hp
          · exact hIC.symm
          · exact hIK.symm
          · exact hID.symm
          · exact (offb p hp).2.2.1
        · rw [List.range_succ, List.map_append]
          exact hT'.append (.cons _ _ .nil)
    · rintro nx h₄ tk₄ ⟨oC, oK, ys, u, rfl, hC, hK, hT'⟩ F₄ N₄
      refine ⟨h₄, tk₄, oC, _, _, rfl, hC, F₄, N₄, ?_, ?_⟩
      · intro p hp
        simp only [List.mem_cons] at hp
        rcases hp with rfl | rfl | hp
        · exact hCK.symm
        · exact hDC
        · exact (offb p hp).1
      clear F₃ N₃ F₄ N₄ hC hK
      intro h'' tk'' F'' N''
      rw [← hbase] at N''
      iterate 17 (first | (k_unfold; (try dsimp only)) | walk1 | (dsimp only; walk1))
      have hws : (wd : Int) * (st : Int) = ((wd * st : Nat) : Int) := (Int.natCast_mul _ _).symm
      have hws64 : wd * st ≤ 64 := Nat.mul_le_mul (show wd ≤ 8 by omega) (show st ≤ 8 by omega)
      rw [hws]
      refine pow_int_small (by omega) (by omega) (by decide) ?_
      iterate 4 (first | (k_unfold; (try dsimp only)) | walk1 | (dsimp only; walk1))
      have hpw : ((2 : Int) ^ ((wd * st : Nat) : Int).toNat - 1) = ((2 ^ (wd * st) - 1 : Nat) : Int) := by
        have z : 1 ≤ 2 ^ (wd * st) := Nat.one_le_two_pow
        rw [Int.toNat_natCast, Int.natCast_sub z, Int.natCast_pow]
        rfl
      rw [hpw]
      rename Fr _ _ _ _ => F
      rename News _ _ _ _ => N
      have hcells2 : ∀ p ∈ ((D, LCg.lst ys) :: (Dw, W.listOf wv.toArray we) :: (L' + 1 + 1, c4) :: (L' + 1, c3) :: tlw'), isF p.2 = false := by
        intro p hp
        simp only [List.mem_cons] at hp
        rcases hp with rfl | rfl | rfl | rfl | hp
        · rfl
        · rfl
        · show isF c4 = false
          unfold isF; rw [d4]
        · show isF c3 = false
          unfold isF; rw [d3]
        · exact kd0 (hwd p hp)
      have N30 := newsSub N (b := ((D, LCg.lst ys) :: (Dw, W.listOf wv.toArray we) :: (L' + 1 + 1, c4) :: (L' + 1, c3) :: tlw') ++ (ta1 ++ tb)) (by
        intro p hp
        simp only [List.mem_cons, List.mem_append] at hp ⊢
        rcases hp with (hp | hp | hp | hp | hp) | hp | hp <;> simp [hp])
      clear N
      refine (dmp_fn w q (2 ^ (wd * st) - 1) _ _ PF.m1 PF.mb PF.mc).use g F N30 (offK N30 hcells2 (isF_TT hT2)) hT2 rfl ?_ ?_ trivial ?_
      · show dp + 1 + _ < _; first | exact ltD hd (by decide) | omega
      · show un + 3 + _ < _; first | exact ltU hu (by decide) | omega
      rintro v hh31 tk31 ts3 hT3 F31 N31 o31 ⟨t31, t32, T3, rfl, hD0, hD1⟩
      rw [PF.fin] at hD1
      have N32 := newsNew F N31 hD1 hD0
      clear F N30 N31 o31 hD0 hD1
      iterate 11 (first | (k_unfold; (try dsimp only)) | walk1 | (dsimp only; walk1))
      rename Fr _ _ _ _ => F
      rename News _ _ _ _ => N
      obtain ⟨ta3, tb3, rfl, hTa3, hTb3, hab3⟩ := hT3
      have N33 := newsSub N (b := ta3 ++ ((D, W.listOf ys.toArray ys.length) :: tb3)) (by
        intro p hp
        rcases List.mem_append.mp hp with hp | hp
        · exact .tail _ (List.mem_append_right _ (List.mem_append_left _ hp))
        · rcases List.mem_cons.mp hp with rfl | hp
          · exact .tail _ (.head _)
          · exact .tail _ (List.mem_append_right _ (List.mem_append_right _ hp)))
      clear N
      refine (d2i_fn w D wd ys.length _ ys (dueOf (ringsOf (wordsOf kinds n) sh) st) (by omega) (by unfold dueOf; rw [List.length_map, List.length_range]; omega) PF.du hT').use g F N33 (fun p hp q => ?_) ⟨tb3, rfl, hTb3⟩ rfl ?_ ?_ trivial ?_
      · rcases List.mem_cons.mp q with q | q
        · exact neN N33 (List.mem_append_left _ hp) (List.mem_append_right _ (.head _)) (by rw [kd2 (isF_T hTa3 p hp)]; exact (by decide : (2 : Nat) ≠ 0)) q
        · obtain ⟨r, hr, er⟩ := List.mem_map.mp q
          exact hab3 r hr (List.mem_map.mpr ⟨p, hp, er.symm⟩)
      · show dp + 1 + _ < _; first | exact ltD hd (by decide) | omega
      · show un + 3 + _ < _; first | exact ltU hu (by decide) | omega
      rintro v hh34 tk34 ts4 ⟨tb4, rfl, hTb4⟩ F34 N34 hne4 ⟨t34, rfl⟩
      clear F N33 hT'
      dsimp only
      skip
      ((first | (k_unfold; (try dsimp only)) | walk1 | (dsimp only; walk1)); (try dsimp only))
      rename Fr _ _ _ _ => F
      rename News _ _ _ _ => N
      refine hret _ _ _ (ta3 ++ tb4) ⟨ta3, tb4, rfl, hTa3, hTb4, fun p hp q => ?_⟩ (grew_of N fun p hp => ?_) (fun b o hb q => F.keep b o (hideAll_get _ q hb)) ?_
      · obtain ⟨r, hr, er⟩ := List.mem_map.mp q
        exact hne4 r hr (List.mem_map.mpr ⟨p, .tail _ hp, er.symm⟩)
      · simp only [List.mem_append, List.mem_cons] at hp ⊢
        rcases hp with hp | hp <;> simp [hp]
      · simp
end Mine
end
section
open PySem PySem.W PySem.W.X PyProof.Rows
set_option maxRecDepth 100000
namespace Mine
theorem oldT {h h' : Heap} {ts' : List (Addr × Obj)} (hT : TabsAt [(41, 37), (48, 44)] h) (hts : TT ts') (gr : Grew h h' [(37, tabObj #[]), (44, tabObj #[])] ts')
    (k : ∀ b o, b ∉ ([(37, tabObj #[]), (44, tabObj #[])] : List (Addr × Obj)).map (·.1) → h.get? b = some o → h'.get? b = some o) : OldK h h' := by
  obtain ⟨ta, tb, rfl, hTa, hTb, _⟩ := hts
  obtain ⟨pa, ha⟩ := hTa.head
  obtain ⟨pb, hb⟩ := hTb.head
  have ga := (gr _ (List.mem_append_left _ ha)).1
  have gb := (gr _ (List.mem_append_right _ hb)).1
  have t1 := hT (41, 37) (.head _)
  have t2 := hT (48, 44) (.tail _ (.head _))
  dsimp only at ga gb t1 t2
  refine ⟨fun b o e => ?_, fun b o e => ?_⟩
  · by_cases h1 : b = 37
    · subst h1
      rw [t1.2] at e; cases e
      exact .inr (.inl ⟨(t1.1.tab t1.2).isCodeTable, rfl, #[], pa, rfl, by rw [ga]; simp⟩)
    · by_cases h2 : b = 44
      · subst h2
        rw [t2.2] at e; cases e
        exact .inr (.inl ⟨(t2.1.tab t2.2).isCodeTable, rfl, #[], pb, rfl, by rw [gb]; simp⟩)
      · exact .inl (k b o (by simp [h1, h2]) e)
  · by_cases h1 : b = 37
    · subst h1; exact ⟨_, ga⟩
    · by_cases h2 : b = 44
      · subst h2; exact ⟨_, gb⟩
      · exact ⟨o, k b o (by simp [h1, h2]) e⟩
set_option maxHeartbeats 0 in
theorem hdm : PySem.Challenge.rw_sn0080_01.Holds := by
  w_on; refine holds_law wsaid fun said => ?_
  refine holds_open (q := vw) (loose := lse) (Xt := fun s => xlAt vw [] s && recOk (RowW.records (OpenRow.toRowW PySem.Challenge.rw_sn0080_01.row)) s) (XP := XL vw []) (Yf := Hook.obs (kmHook Mine.K0 [2, 3, 27, 28, 41, 42, 48, 49, 55, 56, 57, 58, 64, 65, 81, 82, 95, 96, 126, 127, 128, 129, 132, 140, 141, 147, 148, 154, 155, 161, 162, 166, 167, 173, 174, 178, 179, 185, 186, 192, 193, 197, 198, 202, 203] (fun _ => by kernel_rfl) [44, 37])) (Ya := Hook.val (kmHook Mine.K0 [2, 3, 27, 28, 41, 42, 48, 49, 55, 56, 57, 58, 64, 65, 81, 82, 95, 96, 126, 127, 128, 129, 132, 140, 141, 147, 148, 154, 155, 161, 162, 166, 167, 173, 174, 178, 179, 185, 186, 192, 193, 197, 198, 202, 203] (fun _ => by kernel_rfl) [44, 37])) (YP := Hook.says (kmHook Mine.K0 [2, 3, 27, 28, 41, 42, 48, 49, 55, 56, 57, 58, 64, 65, 81, 82, 95, 96, 126, 127, 128, 129, 132, 140, 141, 147, 148, 154, 155, 161, 162, 166, 167, 173, 174, 178, 179, 185, 186, 192, 193, 197, 198, 202, 203] (fun _ => by kernel_rfl) [44, 37])) (N := 5202) ?hl (Hook.of _) (Hook.keeps _) (fun s e => xl_of s (Bool.and_eq_true_iff.mp e).1) XL.keeps (by rfl) (by rfl) (by rfl) (fun s e => recFacts_of (Bool.and_eq_true_iff.mp e).2) (by first | rfl | fail "1") (by first | assumption | decide +kernel) (by decide +kernel) ⟨rfl, rfl, rfl, rfl, rfl, by decide +kernel⟩ ?hw ?hc
  case hl => exact Hd.hleft
  (case hw => w_witness2)
  case hc =>
    k_fill
    intro w s₀ s₁ mg mb G Y fa o pm cd doc dV kV ho hd hcd hD hmg hg args vals as hpre hlay hrd hwl hlo
    have KX := km_in_of Y
    have hT8 := km_tabs_of Y
    refine Ground.open G ?_
    intro T B D TE TW
    have hfa := mg_of KX T.g (n := Str.ofString "law") (v := .ref 203) (by kernel_rfl)
    have hfa2 := hmg.symm.trans hfa
    injection hfa2 with hfa2
    injection hfa2 with hfa2
    subst hfa2
    clear hfa hmg
    wrow_args hpre hlay hrd hwl hlo
    all_goals (first | refine callC_kw (enter_call ?_) | refine enter_call ?_ | refine callC_kw (enter_callW ?_) | refine enter_callW ?_ | w_how)
    have hT9 : TabsAt [(41, 37), (48, 44)] s₁.heap := List.forall_mem_cons.mpr ⟨⟨codeHd_of_K (c := 41) (P := 37) KX (by kernel_rfl), hT8 37 (by simp)⟩, List.forall_mem_cons.mpr ⟨⟨codeHd_of_K (c := 48) (P := 44) KX (by kernel_rfl), hT8 44 (by simp)⟩, fun _ h => nomatch h⟩⟩
    have gG : Mine.G w (hideAll s₁.heap (([(37, tabObj #[]), (44, tabObj #[])] : List (Addr × Obj)).map (·.1))) := ⟨ghost_K hT9 KX (by kernel_rfl), _, _, _, _, _, ghost_top (p := vw) hT9 T⟩
    rename ¬ _ < _ => hc6
    rename PySem.Heap.IsList _ _ _ => hL6
    rename IntsAre _ _ => hI6
    refine law_fn w _ _ _ (by omega) [(37, tabObj #[]), (44, tabObj #[])] (1 + claimMargin) 4 (some []) (some []) s₁ _ ⟨[(37, tabObj #[])], [(44, tabObj #[])], rfl, .inl rfl, .inl rfl, by decide⟩ ?_ gG (by decide +kernel) (by decide +kernel) ⟨hL6, hI6⟩ fun v h' tk' ts' hT' gr k hv => ?_
    · intro p hp
      rcases List.mem_cons.mp hp with rfl | hp
      · exact (hT9 (41, 37) (.head _)).2
      · rcases List.mem_cons.mp hp with rfl | hp
        · exact (hT9 (48, 44) (.tail _ (.head _))).2
        · cases hp
    · subst hv
      refine ⟨.inl ⟨_, .bool true, [], rfl, raisesW_false (by wrow_none_raised), .bool true, ?_, unshared_nil⟩, oldT hT9 hT' gr k, rfl, .of_eq hg⟩
      first | rfl | kernel_rfl | (refine postW_of (by wrow_shape) (by wtm_val) ?_; w_fin)
end Mine
end
theorem PySem.Challenge.cw_sn0080_01_holds : PySem.Challenge.rw_sn0080_01.Holds :=
  Mine.hdm
